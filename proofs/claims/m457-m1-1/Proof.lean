import JvmDerived
import JvmDerived.Pilot.@@N@@Statement
import JvmDerived.Pilot.@@N@@Code
set_option linter.unusedVariables false
set_option linter.unusedSimpArgs false
/- laws to paste: Road.backV (cut by pick.py; bodies as the Statement names them) -/
namespace Jvm.Pilot.@@N@@
namespace StrChars
open Jvm Sem ClassFile Op Lib Jvm.Stand Jvm.Free.XT Jvm.Free.ALB Jvm.Free.JM Jvm.Free
open Jvm.Lib.Cold (StaticIs)
/-- a char array whose places are chars -/
def Ch (a : Addr) (A : Cell) (U : State) : Prop := Arr .char a A U ∧ Typed .char A
theorem Ch.mv {a : Addr} {A : Cell} {U U' : State} (h : Ch a A U) (hal : U.vm.Alike U'.vm) (hh : U'.heap = U.heap) : Ch a A U' := ⟨h.1.mv hal hh, h.2⟩
theorem Ch.keep {a : Addr} {A : Cell} {U U' : State} (h : Ch a A U) (hal : U.vm.Alike U'.vm) (hk : U'.heap[a]? = some A) : Ch a A U' := ⟨h.1.keep hal hk, h.2⟩
/-- what place i of a char[]'s cell holds -/
def cv (A : Cell) (i : Nat) : Int32 := match A.slots[i]? with | some (.int x) => x | _ => 0
theorem Ch.get {a : Addr} {A : Cell} {U : State} (h : Ch a A U) {i : Nat} (hi : i < A.slots.size) : A.slots[i]? = some (.int (cv A i)) := by
  have e := Array.getElem?_eq_getElem hi
  have f := h.2 i _ e
  unfold cv; rw [e]
  generalize A.slots[i] = v at f
  cases v <;> simp [fits] at f ⊢
/-- the byte that i2b leaves of a char -/
def lo8 (x : Int32) : Int32 := x.toInt8.toInt32
theorem fits_lo8 (y : Int32) : fits .byte (.int (lo8 y)) = true := by
  have h1 := y.toInt8.le_toInt
  have h2 := y.toInt8.toInt_lt
  simp only [lo8, fits, Bool.and_eq_true, decide_eq_true_eq, Int32.le_iff_toInt_le, Int8.toInt_toInt32, show (-128 : Int32).toInt = -128 from by decide, show (127 : Int32).toInt = 127 from by decide]
  omega
/-- A' is A but that each place j of lo .. hi - 1 holds f j -/
def Laid (A A' : Cell) (lo hi : Nat) (f : Nat → Value) : Prop := A'.cls = A.cls ∧ A'.vm = A.vm ∧ A'.slots.size = A.slots.size ∧ ∀ i, A'.slots[i]? = if lo ≤ i ∧ i < hi then some (f i) else A.slots[i]?
theorem Laid.zero (A : Cell) (lo : Nat) (f : Nat → Value) : Laid A A lo (lo + 0) f := ⟨rfl, rfl, rfl, fun i => by rw [if_neg (by omega)]⟩
theorem Laid.step {A Ak : Cell} {lo k : Nat} {f : Nat → Value} {v : Value} (h : Laid A Ak lo k f) (hlo : lo ≤ k) (hk : k < Ak.slots.size) (hv : v = f k) : Laid A (Ak.setSlot k v) lo (k + 1) f := by
  refine ⟨h.1, h.2.1, by simpa [Cell.setSlot] using h.2.2.1, fun i => ?_⟩
  by_cases e : k = i
  · subst e; rw [Cell.slots_setSlot_self v hk, if_pos (by omega), hv]
  · rw [Cell.slots_setSlot_ne v e, h.2.2.2 i]
    by_cases q : lo ≤ i ∧ i < k
    · rw [if_pos q, if_pos (by omega)]
    · rw [if_neg q, if_neg (by omega)]
def U16 : String := "java/lang/StringUTF16"
namespace Cmp5
def yN : MethodName := ⟨"java/lang/StringUTF16", "compress", "([CI[BII)I"⟩
abbrev yB : ByteArray := jdk_52_method_21_code
theorem d0 : decode yB 0 = .ok (.iconst 0, 1) := by decide +kernel
theorem d1 : decode yB 1 = .ok (.istore 5, 2) := by decide +kernel
theorem d3 : decode yB 3 = .ok (.iload 5, 2) := by decide +kernel
theorem d5 : decode yB 5 = .ok (.iload 4, 2) := by decide +kernel
theorem d7 : decode yB 7 = .ok (.if_icmp (.ge) 37, 3) := by decide +kernel
theorem d10 : decode yB 10 = .ok (.aload_n 0, 1) := by decide +kernel
theorem d11 : decode yB 11 = .ok (.iload_n 1, 1) := by decide +kernel
theorem d12 : decode yB 12 = .ok (.caload, 1) := by decide +kernel
theorem d13 : decode yB 13 = .ok (.istore 6, 2) := by decide +kernel
theorem d15 : decode yB 15 = .ok (.iload 6, 2) := by decide +kernel
theorem d17 : decode yB 17 = .ok (.sipush 255, 3) := by decide +kernel
theorem d20 : decode yB 20 = .ok (.if_icmp (.le) 6, 3) := by decide +kernel
theorem d26 : decode yB 26 = .ok (.aload_n 2, 1) := by decide +kernel
theorem d27 : decode yB 27 = .ok (.iload_n 3, 1) := by decide +kernel
theorem d28 : decode yB 28 = .ok (.iload 6, 2) := by decide +kernel
theorem d30 : decode yB 30 = .ok (.i2b, 1) := by decide +kernel
theorem d31 : decode yB 31 = .ok (.bastore, 1) := by decide +kernel
theorem d32 : decode yB 32 = .ok (.iinc 1 1, 3) := by decide +kernel
theorem d35 : decode yB 35 = .ok (.iinc 3 1, 3) := by decide +kernel
theorem d38 : decode yB 38 = .ok (.iinc 5 1, 3) := by decide +kernel
theorem d41 : decode yB 41 = .ok (.goto (-38), 3) := by decide +kernel
theorem d44 : decode yB 44 = .ok (.iload 4, 2) := by decide +kernel
theorem d46 : decode yB 46 = .ok (.ireturn, 1) := by decide +kernel
def site : List Cond := []
def tab : Cond := tabOf yN yB 7 (some .int) site
def P (b : Addr) (A : Cell) (d : Addr) (B : Cell) (o q len : Nat) (args : Array Value) (s : State) : Prop := args = #[.ref b, .int (Int32.ofNat o), .ref d, .int (Int32.ofNat q), .int (Int32.ofNat len)] ∧ Ch b A s ∧ Arr .byte d B s ∧ b ≠ d ∧ o + len ≤ A.slots.size ∧ q + len ≤ B.slots.size ∧ ∀ i, i < len → ¬ 255 < cv A (o + i)
def E (b : Addr) (A : Cell) (d : Addr) (B : Cell) (o q len : Nat) (r : Option Value) (s u : State) : Prop := r = some (.int (Int32.ofNat len)) ∧ ∃ B', Put d B' s u ∧ Laid B B' q (q + len) (fun j => Value.int (lo8 (cv A (o + (j - q)))))
/-- no char of the range above 255: len; the places written hold each char's low byte -/
theorem law (l : Launch) (b : Addr) (A : Cell) (d : Addr) (B : Cell) (o q len : Nat) : Law l yN 5 5 0 0 yB 7 (some .int) site (P b A d B o q len) (E b A d B o q len) (copyLocs d q len) 0 0 := by
  refine Law.of_walk (plainFor_of_name (by decide +kernel)) (by decide +kernel) (by decide +kernel) (by decide) (fun _ _ h => by rw [h.1]; rfl) (fun _ U U' hal hh h => ⟨h.1, h.2.1.mv hal hh, h.2.2.1.mv hal hh, h.2.2.2⟩) (fun r U U' V V' h1 hal h2 h => ⟨h.1, h.2.elim fun B' q => ⟨B', q.1.mv h1 h2, q.2⟩⟩) ?_
  intro p e s m args below meth c s₁ X0 hexec hbytes hml hret hlk hnm hown hh0 W hP
  obtain ⟨rfl, hA, hB, hne, l1, l2, hp⟩ := hP
  have c1 : Steps p.tables e below (s₁.setTop (entryFrame m #[.ref b, .int (Int32.ofNat o), .ref d, .int (Int32.ofNat q), .int (Int32.ofNat len)] 7)) (s₁.setTop (mkF m 0 #[.val (.ref b), .val (.int (Int32.ofNat o)), .val (.ref d), .val (.int (Int32.ofNat q)), .val (.int (Int32.ofNat len)), .unset, .unset] [])) := entry rfl
  have hA0 := hA.1.mv X0.warmed.alike hh0
  have hB0 := hB.mv X0.warmed.alike hh0
  have a31 := hA.1.2.2.2
  have c2 : Steps p.tables e below (s₁.setTop (entryFrame m #[.ref b, .int (Int32.ofNat o), .ref d, .int (Int32.ofNat q), .int (Int32.ofNat len)] 7)) (s₁.setTop (mkF m 3 #[.val (.ref b), .val (.int (Int32.ofNat o)), .val (.ref d), .val (.int (Int32.ofNat q)), .val (.int (Int32.ofNat len)), .val (.int 0), .unset] [])) := c1.trans (by
    refine iconstV X0.here hexec rfl 0 (hb hbytes d0) (by decide) ?_
    refine XS.istore X0.here hexec rfl (hb hbytes d1) rfl rfl ?_
    exact Steps.refl _)
  have loop : ∀ (r i : Nat), i + r = len → ∀ (z : Slot), (z = .unset ∨ ∃ w, z = .val w ∧ w.category = 1) → ∀ (Tl : State) (Bk : Cell), Stand p l e { frames := 0, locals := 0, cells := 0, slots := 0 } s m #[.ref b, .int (Int32.ofNat o), .ref d, .int (Int32.ofNat q), .int (Int32.ofNat len)] below meth c Tl ([] ++ copyLocs d q i) 0 0 → Put d Bk s₁ Tl → Laid B Bk q (q + i) (fun j => Value.int (lo8 (cv A (o + (j - q))))) →
      Steps p.tables e below (s₁.setTop (entryFrame m #[.ref b, .int (Int32.ofNat o), .ref d, .int (Int32.ofNat q), .int (Int32.ofNat len)] 7)) (Tl.setTop (mkF m 3 #[.val (.ref b), .val (.int (Int32.ofNat (o + i))), .val (.ref d), .val (.int (Int32.ofNat (q + i))), .val (.int (Int32.ofNat len)), .val (.int (Int32.ofNat i)), z] [])) → ∃ (T' : State) (B' : Cell) (z' : Slot), Stand p l e { frames := 0, locals := 0, cells := 0, slots := 0 } s m #[.ref b, .int (Int32.ofNat o), .ref d, .int (Int32.ofNat q), .int (Int32.ofNat len)] below meth c T' ([] ++ copyLocs d q len) 0 0 ∧ Put d B' s₁ T' ∧ Laid B B' q (q + len) (fun j => Value.int (lo8 (cv A (o + (j - q))))) ∧
      Steps p.tables e below (s₁.setTop (entryFrame m #[.ref b, .int (Int32.ofNat o), .ref d, .int (Int32.ofNat q), .int (Int32.ofNat len)] 7)) (T'.setTop (mkF m 3 #[.val (.ref b), .val (.int (Int32.ofNat (o + len))), .val (.ref d), .val (.int (Int32.ofNat (q + len))), .val (.int (Int32.ofNat len)), .val (.int (Int32.ofNat len)), z'] [])) := by
    intro r
    induction r with
    | zero =>
      intro i hi z hz Tl Bk Xl pl fl cl
      have hil : i = len := by omega
      rw [hil] at Xl fl cl
      exact ⟨Tl, Bk, z, Xl, pl, fl, cl⟩
    | succ r ih =>
      intro i hi z hz Tl Bk Xl pl fl cl
      have all := X0.warmed.alike.symm.trans Xl.warmed.alike
      have hAl := hA0.keep all (pl.other hne hA0.1)
      have hBk := hB0.like all pl.1 fl.1 fl.2.1 fl.2.2.1
      have hlt : q + i < Bk.slots.size := by rw [fl.2.2.1]; omega
      have c3 : Steps p.tables e below (s₁.setTop (entryFrame m #[.ref b, .int (Int32.ofNat o), .ref d, .int (Int32.ofNat q), .int (Int32.ofNat len)] 7)) (Tl.setTop (mkF m 12 #[.val (.ref b), .val (.int (Int32.ofNat (o + i))), .val (.ref d), .val (.int (Int32.ofNat (q + i))), .val (.int (Int32.ofNat len)), .val (.int (Int32.ofNat i)), z] [.int (Int32.ofNat (o + i)), .ref b])) := cl.trans (by
        refine XS.iload Xl.here hexec rfl (hb hbytes d3) rfl ?_
        refine XS.iload Xl.here hexec rfl (hb hbytes d5) rfl ?_
        refine XS.icmpNo Xl.here hexec rfl (hb hbytes d7) rfl (ii_ge_f (lt32 (by omega) (by omega))) ?_
        refine XS.aloadN Xl.here hexec rfl (hb hbytes d10) rfl rfl ?_
        refine XS.iloadN Xl.here hexec rfl (hb hbytes d11) rfl ?_
        exact Steps.refl _)
      have c4 : Steps p.tables e below (s₁.setTop (entryFrame m #[.ref b, .int (Int32.ofNat o), .ref d, .int (Int32.ofNat q), .int (Int32.ofNat len)] 7)) (Tl.setTop (mkF m 13 #[.val (.ref b), .val (.int (Int32.ofNat (o + i))), .val (.ref d), .val (.int (Int32.ofNat (q + i))), .val (.int (Int32.ofNat len)), .val (.int (Int32.ofNat i)), z] [.int (cv A (o + i))])) := c3.trans (by
        refine Xl.aget hexec hAl rfl (hA.get (i := o + i) (by omega)) rfl rfl (hb hbytes d12) ?_
        exact Steps.refl _)
      have c5 : Steps p.tables e below (s₁.setTop (entryFrame m #[.ref b, .int (Int32.ofNat o), .ref d, .int (Int32.ofNat q), .int (Int32.ofNat len)] 7)) (Tl.setTop (mkF m 15 #[.val (.ref b), .val (.int (Int32.ofNat (o + i))), .val (.ref d), .val (.int (Int32.ofNat (q + i))), .val (.int (Int32.ofNat len)), .val (.int (Int32.ofNat i)), .val (.int (cv A (o + i)))] [])) := c4.trans (by
        refine XS.istoreS Xl.here hexec rfl (hb hbytes d13) rfl rfl hz ?_
        exact Steps.refl _)
      have c6 : Steps p.tables e below (s₁.setTop (entryFrame m #[.ref b, .int (Int32.ofNat o), .ref d, .int (Int32.ofNat q), .int (Int32.ofNat len)] 7)) (Tl.setTop (mkF m 31 #[.val (.ref b), .val (.int (Int32.ofNat (o + i))), .val (.ref d), .val (.int (Int32.ofNat (q + i))), .val (.int (Int32.ofNat len)), .val (.int (Int32.ofNat i)), .val (.int (cv A (o + i)))] [.int (lo8 (cv A (o + i))), .int (Int32.ofNat (q + i)), .ref d])) := c5.trans (by
        refine XS.iload Xl.here hexec rfl (hb hbytes d15) rfl ?_
        refine sipushV Xl.here hexec rfl 255 (hb hbytes d17) (by decide) ?_
        refine XS.icmpYes Xl.here hexec rfl (pc0 := 20) rfl (hb hbytes d20) rfl (ii_le_t (hp i (by omega))) (by decide) rfl ?_
        refine XS.aloadN Xl.here hexec rfl (hb hbytes d26) rfl rfl ?_
        refine XS.iloadN Xl.here hexec rfl (hb hbytes d27) rfl ?_
        refine XS.iload Xl.here hexec rfl (hb hbytes d28) rfl ?_
        refine i2b Xl.here hexec rfl (hb hbytes d30) rfl ?_
        exact Steps.refl _)
      obtain ⟨T7, X7, p7, st7⟩ := Xl.aput hexec hBk rfl hlt rfl (fits_lo8 (cv A (o + i))) (g := (mkF m 31 #[.val (.ref b), .val (.int (Int32.ofNat (o + i))), .val (.ref d), .val (.int (Int32.ofNat (q + i))), .val (.int (Int32.ofNat len)), .val (.int (Int32.ofNat i)), .val (.int (cv A (o + i)))] [.int (lo8 (cv A (o + i))), .int (Int32.ofNat (q + i)), .ref d])) rfl (rest := []) rfl (hb hbytes d31)
      have c8 : Steps p.tables e below (s₁.setTop (entryFrame m #[.ref b, .int (Int32.ofNat o), .ref d, .int (Int32.ofNat q), .int (Int32.ofNat len)] 7)) (T7.setTop (mkF m 32 #[.val (.ref b), .val (.int (Int32.ofNat (o + i))), .val (.ref d), .val (.int (Int32.ofNat (q + i))), .val (.int (Int32.ofNat len)), .val (.int (Int32.ofNat i)), .val (.int (cv A (o + i)))] [])) := c6.trans (st7 _ (Steps.refl _))
      have c9 : Steps p.tables e below (s₁.setTop (entryFrame m #[.ref b, .int (Int32.ofNat o), .ref d, .int (Int32.ofNat q), .int (Int32.ofNat len)] 7)) (T7.setTop (mkF m 3 #[.val (.ref b), .val (.int (Int32.ofNat (o + i) + 1)), .val (.ref d), .val (.int (Int32.ofNat (q + i) + 1)), .val (.int (Int32.ofNat len)), .val (.int (Int32.ofNat i + 1)), .val (.int (cv A (o + i)))] [])) := c8.trans (by
        refine iincV X7.here hexec rfl 1 (hb hbytes d32) (by decide) rfl rfl ?_
        refine iincV X7.here hexec rfl 1 (hb hbytes d35) (by decide) rfl rfl ?_
        refine iincV X7.here hexec rfl 1 (hb hbytes d38) (by decide) rfl rfl ?_
        refine XS.goto X7.here hexec rfl (pc0 := 41) rfl (hb hbytes d41) (by decide) rfl ?_
        exact Steps.refl _)
      have c10 : Steps p.tables e below (s₁.setTop (entryFrame m #[.ref b, .int (Int32.ofNat o), .ref d, .int (Int32.ofNat q), .int (Int32.ofNat len)] 7)) (T7.setTop (mkF m 3 #[.val (.ref b), .val (.int (Int32.ofNat (o + (i + 1)))), .val (.ref d), .val (.int (Int32.ofNat (q + (i + 1)))), .val (.int (Int32.ofNat len)), .val (.int (Int32.ofNat (i + 1))), .val (.int (cv A (o + i)))] [])) := by
        have := c9
        rw [succ32, succ32, succ32] at this
        exact this
      exact ih (i + 1) (by omega) _ (Or.inr ⟨_, rfl, rfl⟩) T7 _ (by rw [copyLocs_step, ← List.append_assoc]; exact X7) (pl.trans p7) (fl.step (by omega) hlt (by simp)) c10
  obtain ⟨T9, B9, z9, X9, p9, f9, g9⟩ := loop len 0 (by omega) .unset (Or.inl rfl) s₁ B (by simpa [copyLocs] using X0) ⟨hB0.1, fun _ _ => rfl, rfl⟩ (Laid.zero _ _ _) c2
  have c11 : Steps p.tables e below (s₁.setTop (entryFrame m #[.ref b, .int (Int32.ofNat o), .ref d, .int (Int32.ofNat q), .int (Int32.ofNat len)] 7)) (T9.setTop (mkF m 46 #[.val (.ref b), .val (.int (Int32.ofNat (o + len))), .val (.ref d), .val (.int (Int32.ofNat (q + len))), .val (.int (Int32.ofNat len)), .val (.int (Int32.ofNat len)), z9] [.int (Int32.ofNat len)])) := g9.trans (by
    refine XS.iload X9.here hexec rfl (hb hbytes d3) rfl ?_
    refine XS.iload X9.here hexec rfl (hb hbytes d5) rfl ?_
    refine XS.icmpYes X9.here hexec rfl (pc0 := 7) rfl (hb hbytes d7) rfl (ii_ge_t (nlt32 (by omega) (Nat.le_refl _))) (by decide) rfl ?_
    refine XS.iload X9.here hexec rfl (hb hbytes d44) rfl ?_
    exact Steps.refl _)
  exact ⟨T9, some (.int (Int32.ofNat len)), _, _, _, X9, by simp, rfl, rfl, (fun h => by cases h), ⟨rfl, B9, p9.from hh0, f9⟩, fun fs hl => c11.trans (X9.ireturnOut hexec hret rfl (Or.inl rfl) (hb hbytes d46) hl)⟩
end Cmp5
namespace Cmp3
def yN : MethodName := ⟨"java/lang/StringUTF16", "compress", "([CII)[B"⟩
abbrev yB : ByteArray := jdk_52_method_16_code
theorem d0 : decode yB 0 = .ok (.iload_n 2, 1) := by decide +kernel
theorem d1 : decode yB 1 = .ok (.newarray .byte, 2) := by decide +kernel
theorem d3 : decode yB 3 = .ok (.astore_n 3, 1) := by decide +kernel
theorem d4 : decode yB 4 = .ok (.aload_n 0, 1) := by decide +kernel
theorem d5 : decode yB 5 = .ok (.iload_n 1, 1) := by decide +kernel
theorem d6 : decode yB 6 = .ok (.aload_n 3, 1) := by decide +kernel
theorem d7 : decode yB 7 = .ok (.iconst 0, 1) := by decide +kernel
theorem d8 : decode yB 8 = .ok (.iload_n 2, 1) := by decide +kernel
theorem d9 : decode yB 9 = .ok (.invokestatic 115, 3) := by decide +kernel
theorem d12 : decode yB 12 = .ok (.istore 4, 2) := by decide +kernel
theorem d14 : decode yB 14 = .ok (.iload 4, 2) := by decide +kernel
theorem d16 : decode yB 16 = .ok (.iload_n 2, 1) := by decide +kernel
theorem d17 : decode yB 17 = .ok (.if_icmp (.eq) 40, 3) := by decide +kernel
theorem d57 : decode yB 57 = .ok (.aload_n 3, 1) := by decide +kernel
theorem d58 : decode yB 58 = .ok (.areturn, 1) := by decide +kernel
def site : List Cond := [.arrayClass .byte, Cmp5.tab] ++ staticW U16 115 Cmp5.yN
def tab : Cond := tabOf yN yB 6 (some (.array .byte)) site
def P (b : Addr) (A : Cell) (o len : Nat) (args : Array Value) (s : State) : Prop := args = #[.ref b, .int (Int32.ofNat o), .int (Int32.ofNat len)] ∧ Ch b A s ∧ o + len ≤ A.slots.size ∧ len ≤ 536870912 ∧ ∀ i, i < len → ¬ 255 < cv A (o + i)
def E (b : Addr) (A : Cell) (o len : Nat) (r : Option Value) (s u : State) : Prop := NewArr .byte "[B" len (fun j => .int (lo8 (cv A (o + j)))) r s u ∧ u.heap.size = s.heap.size + 1
/-- no char of the range above 255: a new byte[] of their low bytes -/
theorem law (l : Launch) (b : Addr) (A : Cell) (o len : Nat) : Law l yN 3 3 1 18 yB 6 (some (.array .byte)) site (P b A o len) (E b A o len) [] 1 len := by
  refine Law.of_walk (plainFor_of_name (by decide +kernel)) (by decide +kernel) (by decide +kernel) (by decide) (fun _ _ h => by rw [h.1]; rfl) (fun _ U U' hal hh h => ⟨h.1, h.2.1.mv hal hh, h.2.2⟩) (fun r U U' V V' h1 hal h2 h => ⟨NewArr.mv r U U' V V' h1 hal h2 h.1, by rw [h1, h2]; exact h.2⟩) ?_
  intro p e s m args below meth c s₁ X0 hexec hbytes hml hret hlk hnm hown hh0 W hP
  obtain ⟨rfl, hA, l1, l2, hp⟩ := hP
  have a31 := hA.1.2.2.2
  have c1 : Steps p.tables e below (s₁.setTop (entryFrame m #[.ref b, .int (Int32.ofNat o), .int (Int32.ofNat len)] 6)) (s₁.setTop (mkF m 0 #[.val (.ref b), .val (.int (Int32.ofNat o)), .val (.int (Int32.ofNat len)), .unset, .unset, .unset] [])) := entry rfl
  have c2 : Steps p.tables e below (s₁.setTop (entryFrame m #[.ref b, .int (Int32.ofNat o), .int (Int32.ofNat len)] 6)) (s₁.setTop (mkF m 1 #[.val (.ref b), .val (.int (Int32.ofNat o)), .val (.int (Int32.ofNat len)), .unset, .unset, .unset] [.int (Int32.ofNat len)])) := c1.trans (by
    refine XS.iloadN X0.here hexec rfl (hb hbytes d0) rfl ?_
    exact Steps.refl _)
  obtain ⟨T3, B3, X3, ba3, bs3, bv3, bh3, bf3, st3⟩ := X0.anew hexec (atype := .byte) (wk W (.arrayClass .byte)) rfl (by show len * 1 ≤ _; omega) (by omega) (g := (mkF m 1 #[.val (.ref b), .val (.int (Int32.ofNat o)), .val (.int (Int32.ofNat len)), .unset, .unset, .unset] [.int (Int32.ofNat len)])) rfl (hb hbytes d1) (rest := []) rfl (Nat.le_refl _) (by show 0 + len ≤ len; omega)
  rw [hh0] at ba3 st3
  have kp3 : XT.Kept s T3 := (XT.Kept.of_eq hh0).push bh3
  have hA3 := hA.keep X3.warmed.alike (kp3 _ _ hA.1.1)
  have hne : b ≠ s.heap.size := hA.1.ne
  have c4 : Steps p.tables e below (s₁.setTop (entryFrame m #[.ref b, .int (Int32.ofNat o), .int (Int32.ofNat len)] 6)) (T3.setTop (mkF m 3 #[.val (.ref b), .val (.int (Int32.ofNat o)), .val (.int (Int32.ofNat len)), .unset, .unset, .unset] [.ref s.heap.size])) := c2.trans (st3 _ (Steps.refl _))
  have c5 : Steps p.tables e below (s₁.setTop (entryFrame m #[.ref b, .int (Int32.ofNat o), .int (Int32.ofNat len)] 6)) (T3.setTop (mkF m 9 #[.val (.ref b), .val (.int (Int32.ofNat o)), .val (.int (Int32.ofNat len)), .val (.ref s.heap.size), .unset, .unset] [.int (Int32.ofNat len), .int 0, .ref s.heap.size, .int (Int32.ofNat o), .ref b])) := c4.trans (by
    refine XS.astoreN X3.here hexec rfl (hb hbytes d3) rfl rfl rfl ?_
    refine XS.aloadN X3.here hexec rfl (hb hbytes d4) rfl rfl ?_
    refine XS.iloadN X3.here hexec rfl (hb hbytes d5) rfl ?_
    refine XS.aloadN X3.here hexec rfl (hb hbytes d6) rfl rfl ?_
    refine iconstV X3.here hexec rfl 0 (hb hbytes d7) (by decide) ?_
    refine XS.iloadN X3.here hexec rfl (hb hbytes d8) rfl ?_
    exact Steps.refl _)
  obtain ⟨v6, T6, X6, E6, g6⟩ := X3.callS hexec (Cmp5.law l b A s.heap.size B3 o 0 len) hown (wks W (staticW U16 115 Cmp5.yN)) (wk W Cmp5.tab) (W := 0) (Nat.le_of_ble_eq_true rfl) (Nat.le_of_ble_eq_true rfl) (Nat.le_refl _) (by show 0 + len + 0 ≤ len; omega) (g := (mkF m 9 #[.val (.ref b), .val (.int (Int32.ofNat o)), .val (.int (Int32.ofNat len)), .val (.ref s.heap.size), .unset, .unset] [.int (Int32.ofNat len), .int (Int32.ofNat 0), .ref s.heap.size, .int (Int32.ofNat o), .ref b])) rfl (by rw [hml]; rfl) c5 (argsL := [.ref b, .int (Int32.ofNat o), .ref s.heap.size, .int (Int32.ofNat 0), .int (Int32.ofNat len)]) (rest := []) rfl rfl (by show 2 * 0 + 0 ≤ _; decide) (hb hbytes d9) (⟨rfl, hA3, ba3, hne, l1, by rw [bs3]; simp, hp⟩)
  obtain ⟨rfl, B6, p6, f6⟩ := E6
  have c7 : Steps p.tables e below (s₁.setTop (entryFrame m #[.ref b, .int (Int32.ofNat o), .int (Int32.ofNat len)] 6)) (T6.setTop (mkF m 12 #[.val (.ref b), .val (.int (Int32.ofNat o)), .val (.int (Int32.ofNat len)), .val (.ref s.heap.size), .unset, .unset] [.int (Int32.ofNat len)])) := g6
  have c8 : Steps p.tables e below (s₁.setTop (entryFrame m #[.ref b, .int (Int32.ofNat o), .int (Int32.ofNat len)] 6)) (T6.setTop (mkF m 58 #[.val (.ref b), .val (.int (Int32.ofNat o)), .val (.int (Int32.ofNat len)), .val (.ref s.heap.size), .val (.int (Int32.ofNat len)), .unset] [.ref s.heap.size])) := c7.trans (by
    refine XS.istore X6.here hexec rfl (hb hbytes d12) rfl rfl ?_
    refine XS.iload X6.here hexec rfl (hb hbytes d14) rfl ?_
    refine XS.iloadN X6.here hexec rfl (hb hbytes d16) rfl ?_
    refine XS.icmpYes X6.here hexec rfl (pc0 := 17) rfl (hb hbytes d17) rfl (ii_eq_t rfl) (by decide) rfl ?_
    refine XS.aloadN X6.here hexec rfl (hb hbytes d57) rfl rfl ?_
    exact Steps.refl _)
  have X8 := X6.wide (L' := []) (cells' := 1) (slots' := len) (fun x hx hlt => by
    simp only [List.nil_append, copyLocs, List.mem_map, List.mem_range] at hx
    obtain ⟨i, -, rfl⟩ := hx
    exact absurd hlt (Nat.lt_irrefl _)) (Nat.le_refl _) (by omega)
  exact ⟨T6, some (.ref s.heap.size), _, _, _, X8, rfl, rfl, rfl, (fun h => by cases h), ⟨⟨rfl, B6, ba3.like (X3.warmed.alike.symm.trans X6.warmed.alike) p6.1 f6.1 f6.2.1 f6.2.2.1, f6.2.1.trans bv3, by rw [X6.warmed.alike.findClass, f6.1]; exact bf3, by rw [f6.2.2.1, bs3]; simp, fun j hj => by rw [f6.2.2.2 j, if_pos (by omega)]; rfl, kp3.put p6 (Nat.le_refl _)⟩, by rw [p6.2.2, bh3, hh0]; simp⟩, fun fs hl => c8.trans (X8.areturnOut hexec rfl hret rfl (hb hbytes d58) hl)⟩
end Cmp3
namespace CodL
def yN : MethodName := ⟨"java/lang/StringUTF16", "coderFromArrayLen", "([BI)B"⟩
abbrev yB : ByteArray := jdk_52_method_15_code
theorem d0 : decode yB 0 = .ok (.iload_n 1, 1) := by decide +kernel
theorem d1 : decode yB 1 = .ok (.aload_n 0, 1) := by decide +kernel
theorem d2 : decode yB 2 = .ok (.arraylength, 1) := by decide +kernel
theorem d3 : decode yB 3 = .ok (.isub, 1) := by decide +kernel
theorem d4 : decode yB 4 = .ok (.bipush 31, 2) := by decide +kernel
theorem d6 : decode yB 6 = .ok (.iushr, 1) := by decide +kernel
theorem d7 : decode yB 7 = .ok (.i2b, 1) := by decide +kernel
theorem d8 : decode yB 8 = .ok (.ireturn, 1) := by decide +kernel
def site : List Cond := []
def tab : Cond := tabOf yN yB 2 (some .byte) site
def P (d : Addr) (B : Cell) (args : Array Value) (s : State) : Prop := args = #[.ref d, .int (Int32.ofNat B.slots.size)] ∧ Arr .byte d B s
def E (r : Option Value) (s u : State) : Prop := XT.PureE (some (.int 0)) r s u
/-- an array as long as the number of chars: LATIN1 -/
theorem law (l : Launch) (d : Addr) (B : Cell) : Law l yN 2 2 0 0 yB 2 (some .byte) site (P d B) E [] 0 0 := by
  refine Law.of_walk (plainFor_of_name (by decide +kernel)) (by decide +kernel) (by decide +kernel) (by decide) (fun _ _ h => by rw [h.1]; rfl) (fun _ U U' hal hh h => ⟨h.1, h.2.mv hal hh⟩) (fun r U U' V V' h1 hal h2 h => XT.PureE.mv r U U' V V' h1 hal h2 h) ?_
  intro p e s m args below meth c s₁ X0 hexec hbytes hml hret hlk hnm hown hh0 W hP
  obtain ⟨rfl, hB⟩ := hP
  have hB0 := hB.mv X0.warmed.alike hh0
  have c1 : Steps p.tables e below (s₁.setTop (entryFrame m #[.ref d, .int (Int32.ofNat B.slots.size)] 2)) (s₁.setTop (mkF m 0 #[.val (.ref d), .val (.int (Int32.ofNat B.slots.size))] [])) := entry rfl
  have c2 : Steps p.tables e below (s₁.setTop (entryFrame m #[.ref d, .int (Int32.ofNat B.slots.size)] 2)) (s₁.setTop (mkF m 2 #[.val (.ref d), .val (.int (Int32.ofNat B.slots.size))] [.ref d, .int (Int32.ofNat B.slots.size)])) := c1.trans (by
    refine XS.iloadN X0.here hexec rfl (hb hbytes d0) rfl ?_
    refine XS.aloadN X0.here hexec rfl (hb hbytes d1) rfl rfl ?_
    exact Steps.refl _)
  have c3 : Steps p.tables e below (s₁.setTop (entryFrame m #[.ref d, .int (Int32.ofNat B.slots.size)] 2)) (s₁.setTop (mkF m 8 #[.val (.ref d), .val (.int (Int32.ofNat B.slots.size))] [.int (lo8 (ushr (Int32.ofNat B.slots.size - Int32.ofNat B.slots.size) 31))])) := c2.trans (by
    refine X0.alen hexec hB0 rfl rfl (hb hbytes d2) ?_
    refine XS.isub X0.here hexec rfl (hb hbytes d3) rfl ?_
    refine bipushV X0.here hexec rfl 31 (hb hbytes d4) (by decide) ?_
    refine iushr X0.here hexec rfl (hb hbytes d6) rfl ?_
    refine i2b X0.here hexec rfl (hb hbytes d7) rfl ?_
    exact Steps.refl _)
  have e0 : lo8 (ushr (Int32.ofNat B.slots.size - Int32.ofNat B.slots.size) 31) = 0 := by rw [Int32.sub_self]; decide
  rw [e0] at c3
  exact ⟨s₁, some (.int 0), _, _, _, X0, rfl, rfl, rfl, (fun h => by cases h), ⟨rfl, hh0⟩, fun fs hl => c3.trans (X0.ireturnOut hexec hret rfl (Or.inr (Or.inr (Or.inl rfl))) (hb hbytes d8) hl)⟩
end CodL
/-- the String at a is Latin-1 over a new byte[] (the heap's one new cell): the low bytes of the len chars of A from o on; every cell but a is kept -/
def Got (a : Addr) (D : Cell) (fV fC : Field) (A : Cell) (o len : Nat) (r : Option Value) (s u : State) : Prop := r = none ∧ ∃ D' V : Cell, Blank "java/lang/String" a D' u ∧ Same D D' [fV.slot, fC.slot] ∧ D'.slots[fV.slot]? = some (.ref s.heap.size) ∧ D'.slots[fC.slot]? = some (.int 0) ∧ Arr .byte s.heap.size V u ∧ V.vm = .none ∧ u.vm.findClass "[B" = some V.cls ∧ V.slots.size = len ∧ (∀ j, j < len → V.slots[j]? = some (.int (lo8 (cv A (o + j))))) ∧ (∀ (y : Addr) (c : Cell), y ≠ a → s.heap[y]? = some c → u.heap[y]? = some c) ∧ u.heap.size = s.heap.size + 1
theorem Got.mv {a : Addr} {D A : Cell} {fV fC : Field} {o len : Nat} : ∀ r (U U' V V' : State), U'.heap = U.heap → V.vm.Alike V'.vm → V'.heap = V.heap → Got a D fV fC A o len r U V → Got a D fV fC A o len r U' V' :=
  fun r U U' V V' h1 hal h2 ⟨e0, D', X, a1, a2, a3, a4, a5, a6, a7, a8, a9, a10, a11⟩ => ⟨e0, D', X, a1.mv hal h2, a2, by rw [h1]; exact a3, a4, by rw [h1]; exact a5.mv hal h2, a6, by rw [hal.findClass]; exact a7, a8, a9, by rw [h1, h2]; exact a10, by rw [h1, h2]; exact a11⟩
namespace New4
def yN : MethodName := ⟨"java/lang/String", "<init>", "([CIILjava/lang/Void;)V"⟩
abbrev yB : ByteArray := jdk_42_method_149_code
theorem d0 : decode yB 0 = .ok (.aload_n 0, 1) := by decide +kernel
theorem d1 : decode yB 1 = .ok (.invokespecial 1, 3) := by decide +kernel
theorem d4 : decode yB 4 = .ok (.iload_n 3, 1) := by decide +kernel
theorem d5 : decode yB 5 = .ok (.ifCond (.ne) 22, 3) := by decide +kernel
theorem d27 : decode yB 27 = .ok (.getstatic 38, 3) := by decide +kernel
theorem d30 : decode yB 30 = .ok (.ifCond (.eq) 28, 3) := by decide +kernel
theorem d33 : decode yB 33 = .ok (.aload_n 1, 1) := by decide +kernel
theorem d34 : decode yB 34 = .ok (.iload_n 2, 1) := by decide +kernel
theorem d35 : decode yB 35 = .ok (.iload_n 3, 1) := by decide +kernel
theorem d36 : decode yB 36 = .ok (.invokestatic 177, 3) := by decide +kernel
theorem d39 : decode yB 39 = .ok (.astore 5, 2) := by decide +kernel
theorem d41 : decode yB 41 = .ok (.aload_n 0, 1) := by decide +kernel
theorem d42 : decode yB 42 = .ok (.aload 5, 2) := by decide +kernel
theorem d44 : decode yB 44 = .ok (.iload_n 3, 1) := by decide +kernel
theorem d45 : decode yB 45 = .ok (.invokestatic 47, 3) := by decide +kernel
theorem d48 : decode yB 48 = .ok (.putfield 15, 3) := by decide +kernel
theorem d51 : decode yB 51 = .ok (.aload_n 0, 1) := by decide +kernel
theorem d52 : decode yB 52 = .ok (.aload 5, 2) := by decide +kernel
theorem d54 : decode yB 54 = .ok (.putfield 9, 3) := by decide +kernel
theorem d57 : decode yB 57 = .ok (.return_, 1) := by decide +kernel
def site : List Cond := [.fieldLink "java/lang/String" 38 "java/lang/String" "COMPACT_STRINGS" "Z", Cmp3.tab, CodL.tab, .laysFinal "java/lang/String" "java/lang/String" "value" "[B", .fieldLink "java/lang/String" 9 "java/lang/String" "value" "[B", .laysFinal "java/lang/String" "java/lang/String" "coder" "B", .fieldLink "java/lang/String" 15 "java/lang/String" "coder" "B"] ++ objW "java/lang/String" 1 ++ staticW "java/lang/String" 177 Cmp3.yN ++ staticW "java/lang/String" 47 CodL.yN
def tab : Cond := tabOf yN yB 6 none site
def P (a : Addr) (D : Cell) (fV fC : Field) (b : Addr) (A : Cell) (z : Int32) (o len : Nat) (args : Array Value) (s : State) : Prop := args = #[.ref a, .ref b, .int (Int32.ofNat o), .int (Int32.ofNat len), .null] ∧ Blank "java/lang/String" a D s ∧ Found "java/lang/String" "value" "[B" fV s ∧ Found "java/lang/String" "coder" "B" fC s ∧ Ch b A s ∧ StaticIs s "java/lang/String" "COMPACT_STRINGS" "Z" (.int z) ∧ ¬ z = 0 ∧ 0 < len ∧ o + len ≤ A.slots.size ∧ len ≤ 536870912 ∧ ∀ i, i < len → ¬ 255 < cv A (o + i)
def E (a : Addr) (D : Cell) (fV fC : Field) (A : Cell) (o len : Nat) (r : Option Value) (s u : State) : Prop := Got a D fV fC A o len r s u
/-- len > 0, no char of the range above 255: a Latin-1 String of their low bytes -/
theorem law (l : Launch) (a : Addr) (D : Cell) (fV fC : Field) (b : Addr) (A : Cell) (z : Int32) (o len : Nat) : Law l yN 5 4 2 35 yB 6 none site (P a D fV fC b A z o len) (E a D fV fC A o len) [⟨a, fC.slot⟩, ⟨a, fV.slot⟩] 1 len := by
  refine Law.of_walk (plainFor_of_name (by decide +kernel)) (by decide +kernel) (by decide +kernel) (by decide) (fun _ _ h => by rw [h.1]; rfl) (fun _ U U' hal hh h => ⟨h.1, h.2.1.mv hal hh, h.2.2.1.al hal, h.2.2.2.1.al hal, h.2.2.2.2.1.mv hal hh, h.2.2.2.2.2.1.there hal hh, h.2.2.2.2.2.2⟩) (fun r U U' V V' h1 hal h2 h => Got.mv r U U' V V' h1 hal h2 h) ?_
  intro p e s m args below meth c s₁ X0 hexec hbytes hml hret hlk hnm hown hh0 W hP
  obtain ⟨rfl, hB, f1, f2, hA, s1, hz, l0, l1, l2, hp⟩ := hP
  have a31 := hA.1.2.2.2
  have c1 : Steps p.tables e below (s₁.setTop (entryFrame m #[.ref a, .ref b, .int (Int32.ofNat o), .int (Int32.ofNat len), .null] 6)) (s₁.setTop (mkF m 0 #[.val (.ref a), .val (.ref b), .val (.int (Int32.ofNat o)), .val (.int (Int32.ofNat len)), .val .null, .unset] [])) := entry rfl
  have c2 : Steps p.tables e below (s₁.setTop (entryFrame m #[.ref a, .ref b, .int (Int32.ofNat o), .int (Int32.ofNat len), .null] 6)) (s₁.setTop (mkF m 1 #[.val (.ref a), .val (.ref b), .val (.int (Int32.ofNat o)), .val (.int (Int32.ofNat len)), .val .null, .unset] [.ref a])) := c1.trans (by
    refine XS.aloadN X0.here hexec rfl (hb hbytes d0) rfl rfl ?_
    exact Steps.refl _)
  obtain ⟨T3, X3, q3, st3⟩ := X0.oinit hexec hown (wks W (objW "java/lang/String" 1)) (g := (mkF m 1 #[.val (.ref a), .val (.ref b), .val (.int (Int32.ofNat o)), .val (.int (Int32.ofNat len)), .val .null, .unset] [.ref a])) rfl (by rw [hml]; rfl) (rest := []) rfl (hb hbytes d1) (W := 0) (by show 2 * 0 + 0 ≤ _; decide) (Nat.le_of_ble_eq_true rfl) (Nat.le_of_ble_eq_true rfl)
  have hh3 := q3.trans hh0
  have c4 : Steps p.tables e below (s₁.setTop (entryFrame m #[.ref a, .ref b, .int (Int32.ofNat o), .int (Int32.ofNat len), .null] 6)) (T3.setTop (mkF m 27 #[.val (.ref a), .val (.ref b), .val (.int (Int32.ofNat o)), .val (.int (Int32.ofNat len)), .val .null, .unset] [])) := (c2.trans (st3 _ (Steps.refl _))).trans (by
    refine XS.iloadN X3.here hexec rfl (hb hbytes d4) rfl ?_
    refine XS.ifYes X3.here hexec rfl (pc0 := 5) rfl (hb hbytes d5) rfl (i0_ne_t (nz32 (by omega) l0)) (by decide) rfl ?_
    exact Steps.refl _)
  obtain ⟨T5, X5, q5, st5⟩ := X3.sget hexec hown (wk W (.fieldLink "java/lang/String" 38 "java/lang/String" "COMPACT_STRINGS" "Z")) s1 (fun _ _ h => by rw [hh3]; exact h) (g := (mkF m 27 #[.val (.ref a), .val (.ref b), .val (.int (Int32.ofNat o)), .val (.int (Int32.ofNat len)), .val .null, .unset] [])) rfl (hb hbytes d27)
  have hh5 := q5.trans hh3
  have c6 : Steps p.tables e below (s₁.setTop (entryFrame m #[.ref a, .ref b, .int (Int32.ofNat o), .int (Int32.ofNat len), .null] 6)) (T5.setTop (mkF m 30 #[.val (.ref a), .val (.ref b), .val (.int (Int32.ofNat o)), .val (.int (Int32.ofNat len)), .val .null, .unset] [.int z])) := c4.trans (st5 _ (Steps.refl _))
  have c7 : Steps p.tables e below (s₁.setTop (entryFrame m #[.ref a, .ref b, .int (Int32.ofNat o), .int (Int32.ofNat len), .null] 6)) (T5.setTop (mkF m 36 #[.val (.ref a), .val (.ref b), .val (.int (Int32.ofNat o)), .val (.int (Int32.ofNat len)), .val .null, .unset] [.int (Int32.ofNat len), .int (Int32.ofNat o), .ref b])) := c6.trans (by
    refine XS.ifNo X5.here hexec rfl (hb hbytes d30) rfl (i0_eq_f hz) ?_
    refine XS.aloadN X5.here hexec rfl (hb hbytes d33) rfl rfl ?_
    refine XS.iloadN X5.here hexec rfl (hb hbytes d34) rfl ?_
    refine XS.iloadN X5.here hexec rfl (hb hbytes d35) rfl ?_
    exact Steps.refl _)
  obtain ⟨v8, T8, X8, E8, g8⟩ := X5.callS hexec (Cmp3.law l b A o len) hown (wks W (staticW "java/lang/String" 177 Cmp3.yN)) (wk W Cmp3.tab) (W := 0) (Nat.le_of_ble_eq_true rfl) (Nat.le_of_ble_eq_true rfl) (Nat.le_refl _) (by show 0 + len ≤ len; omega) (g := (mkF m 36 #[.val (.ref a), .val (.ref b), .val (.int (Int32.ofNat o)), .val (.int (Int32.ofNat len)), .val .null, .unset] [.int (Int32.ofNat len), .int (Int32.ofNat o), .ref b])) rfl (by rw [hml]; rfl) c7 (argsL := [.ref b, .int (Int32.ofNat o), .int (Int32.ofNat len)]) (rest := []) rfl rfl (by show 2 * 0 + 0 ≤ _; decide) (hb hbytes d36) (⟨rfl, hA.mv X5.warmed.alike hh5, l1, l2, hp⟩)
  obtain ⟨e8, z8⟩ := E8
  obtain ⟨rfl, N, n1, n2, n3, n4, n5, n6⟩ := NewArr.mv _ T5 s _ _ hh5.symm (Vm.Alike.refl _) rfl e8
  rw [hh5] at z8
  have hB1 := hB.keep X8.warmed.alike (n6 _ _ hB.1)
  have hne : s.heap.size ≠ a := (Nat.ne_of_lt (Array.getElem?_eq_some_iff.mp hB.1).1).symm
  have c9 : Steps p.tables e below (s₁.setTop (entryFrame m #[.ref a, .ref b, .int (Int32.ofNat o), .int (Int32.ofNat len), .null] 6)) (T8.setTop (mkF m 39 #[.val (.ref a), .val (.ref b), .val (.int (Int32.ofNat o)), .val (.int (Int32.ofNat len)), .val .null, .unset] [.ref s.heap.size])) := g8
  have c10 : Steps p.tables e below (s₁.setTop (entryFrame m #[.ref a, .ref b, .int (Int32.ofNat o), .int (Int32.ofNat len), .null] 6)) (T8.setTop (mkF m 45 #[.val (.ref a), .val (.ref b), .val (.int (Int32.ofNat o)), .val (.int (Int32.ofNat len)), .val .null, .val (.ref s.heap.size)] [.int (Int32.ofNat N.slots.size), .ref s.heap.size, .ref a])) := by
    have hc : Steps p.tables e below (s₁.setTop (entryFrame m #[.ref a, .ref b, .int (Int32.ofNat o), .int (Int32.ofNat len), .null] 6)) (T8.setTop (mkF m 45 #[.val (.ref a), .val (.ref b), .val (.int (Int32.ofNat o)), .val (.int (Int32.ofNat len)), .val .null, .val (.ref s.heap.size)] [.int (Int32.ofNat len), .ref s.heap.size, .ref a])) := c9.trans (by
      refine XS.astore X8.here hexec rfl (hb hbytes d39) rfl rfl rfl ?_
      refine XS.aloadN X8.here hexec rfl (hb hbytes d41) rfl rfl ?_
      refine XS.aload X8.here hexec rfl (hb hbytes d42) rfl rfl ?_
      refine XS.iloadN X8.here hexec rfl (hb hbytes d44) rfl ?_
      exact Steps.refl _)
    rw [n4]; exact hc
  obtain ⟨v11, T11, X11, E11, g11⟩ := X8.callS hexec (CodL.law l s.heap.size N) hown (wks W (staticW "java/lang/String" 47 CodL.yN)) (wk W CodL.tab) (W := 1) (Nat.le_of_ble_eq_true rfl) (Nat.le_of_ble_eq_true rfl) (Nat.le_refl _) (by show 0 + len + 0 ≤ len; omega) (g := (mkF m 45 #[.val (.ref a), .val (.ref b), .val (.int (Int32.ofNat o)), .val (.int (Int32.ofNat len)), .val .null, .val (.ref s.heap.size)] [.int (Int32.ofNat N.slots.size), .ref s.heap.size, .ref a])) rfl (by rw [hml]; rfl) c10 (argsL := [.ref s.heap.size, .int (Int32.ofNat N.slots.size)]) (rest := [.ref a]) rfl rfl (by show 2 * 0 + (1 + 0) ≤ _; decide) (hb hbytes d45) (⟨rfl, n1⟩)
  obtain ⟨rfl, q11⟩ := E11
  have hB11 := hB1.mv (X8.warmed.alike.symm.trans X11.warmed.alike) q11
  have c12 : Steps p.tables e below (s₁.setTop (entryFrame m #[.ref a, .ref b, .int (Int32.ofNat o), .int (Int32.ofNat len), .null] 6)) (T11.setTop (mkF m 48 #[.val (.ref a), .val (.ref b), .val (.int (Int32.ofNat o)), .val (.int (Int32.ofNat len)), .val .null, .val (.ref s.heap.size)] [.int 0, .ref a])) := g11
  obtain ⟨T13, X13, p13, bl13, sl13, st13⟩ := X11.finit hexec hown (wk W (.fieldLink "java/lang/String" 15 "java/lang/String" "coder" "B")) (Or.inr ⟨_, (wk W (.laysFinal "java/lang/String" "java/lang/String" "coder" "B"))⟩) (Or.inl ⟨rfl, hnm⟩) f2 (Or.inl rfl) hB11 (t := .byte) (by decide +kernel) rfl (g := (mkF m 48 #[.val (.ref a), .val (.ref b), .val (.int (Int32.ofNat o)), .val (.int (Int32.ofNat len)), .val .null, .val (.ref s.heap.size)] [.int 0, .ref a])) rfl (rest := []) rfl (hb hbytes d48)
  have c14 : Steps p.tables e below (s₁.setTop (entryFrame m #[.ref a, .ref b, .int (Int32.ofNat o), .int (Int32.ofNat len), .null] 6)) (T13.setTop (mkF m 54 #[.val (.ref a), .val (.ref b), .val (.int (Int32.ofNat o)), .val (.int (Int32.ofNat len)), .val .null, .val (.ref s.heap.size)] [.ref s.heap.size, .ref a])) := (c12.trans (st13 _ (Steps.refl _))).trans (by
    refine XS.aloadN X13.here hexec rfl (hb hbytes d51) rfl rfl ?_
    refine XS.aload X13.here hexec rfl (hb hbytes d52) rfl rfl ?_
    exact Steps.refl _)
  obtain ⟨T15, X15, p15, bl15, sl15, st15⟩ := X13.finit hexec hown (wk W (.fieldLink "java/lang/String" 9 "java/lang/String" "value" "[B")) (Or.inr ⟨_, (wk W (.laysFinal "java/lang/String" "java/lang/String" "value" "[B"))⟩) (Or.inl ⟨rfl, hnm⟩) f1 (Or.inl rfl) bl13 (t := (.array .byte)) (by decide +kernel) rfl (g := (mkF m 54 #[.val (.ref a), .val (.ref b), .val (.int (Int32.ofNat o)), .val (.int (Int32.ofNat len)), .val .null, .val (.ref s.heap.size)] [.ref s.heap.size, .ref a])) rfl (rest := []) rfl (hb hbytes d54)
  have c16 : Steps p.tables e below (s₁.setTop (entryFrame m #[.ref a, .ref b, .int (Int32.ofNat o), .int (Int32.ofNat len), .null] 6)) (T15.setTop (mkF m 57 #[.val (.ref a), .val (.ref b), .val (.int (Int32.ofNat o)), .val (.int (Int32.ofNat len)), .val .null, .val (.ref s.heap.size)] [])) := c14.trans (st15 _ (Steps.refl _))
  have ap := apart (Or.inr ⟨_, (wk W (.laysFinal "java/lang/String" "java/lang/String" "value" "[B"))⟩) (Or.inr ⟨_, (wk W (.laysFinal "java/lang/String" "java/lang/String" "coder" "B"))⟩) f1 f2 (t₁ := .array .byte) (t₂ := .byte) (by decide +kernel) (by decide +kernel) (by decide)
  have al := X8.warmed.alike.symm.trans X15.warmed.alike
  have n7 : T11.heap[s.heap.size]? = some N := by rw [q11]; exact n1.1
  exact ⟨T15, none, _, _, _, X15, by simp, rfl, by omega, (fun _ => rfl), ⟨rfl, _, N, bl15, ((Same.refl D _).set _ (by simp)).set _ (by simp), sl15, (Cell.slots_setSlot_ne _ ap).trans sl13, n1.keep al (p15.other hne (p13.other hne n7)), n2, by rw [al.findClass]; exact n3, n4, n5, fun y c h1 h2 => p15.other h1 (p13.other h1 (by rw [q11]; exact n6 y c h2)), by rw [p15.2.2, p13.2.2, q11]; exact z8⟩, fun fs hl => c16.trans (X15.returnOut hexec hret (hb hbytes d57) hl)⟩
end New4
namespace New1
def yN : MethodName := ⟨"java/lang/String", "<init>", "([C)V"⟩
abbrev yB : ByteArray := jdk_42_method_3_code
theorem d0 : decode yB 0 = .ok (.aload_n 0, 1) := by decide +kernel
theorem d1 : decode yB 1 = .ok (.aload_n 1, 1) := by decide +kernel
theorem d2 : decode yB 2 = .ok (.iconst 0, 1) := by decide +kernel
theorem d3 : decode yB 3 = .ok (.aload_n 1, 1) := by decide +kernel
theorem d4 : decode yB 4 = .ok (.arraylength, 1) := by decide +kernel
theorem d5 : decode yB 5 = .ok (.aconst_null, 1) := by decide +kernel
theorem d6 : decode yB 6 = .ok (.invokespecial 27, 3) := by decide +kernel
theorem d9 : decode yB 9 = .ok (.return_, 1) := by decide +kernel
def site : List Cond := [New4.tab] ++ initW "java/lang/String" 27 New4.yN
def tab : Cond := tabOf yN yB 2 none site
def P (a : Addr) (D : Cell) (fV fC : Field) (b : Addr) (A : Cell) (z : Int32) (args : Array Value) (s : State) : Prop := args = #[.ref a, .ref b] ∧ Blank "java/lang/String" a D s ∧ Found "java/lang/String" "value" "[B" fV s ∧ Found "java/lang/String" "coder" "B" fC s ∧ Ch b A s ∧ StaticIs s "java/lang/String" "COMPACT_STRINGS" "Z" (.int z) ∧ ¬ z = 0 ∧ 0 < A.slots.size ∧ A.slots.size ≤ 536870912 ∧ ∀ i, i < A.slots.size → ¬ 255 < cv A i
def E (a : Addr) (D : Cell) (fV fC : Field) (A : Cell) (r : Option Value) (s u : State) : Prop := Got a D fV fC A 0 A.slots.size r s u
/-- new String(chars), not empty, no char above 255: a Latin-1 String of their low bytes -/
theorem law (l : Launch) (a : Addr) (D : Cell) (fV fC : Field) (b : Addr) (A : Cell) (z : Int32) : Law l yN 2 1 3 52 yB 2 none site (P a D fV fC b A z) (E a D fV fC A) [⟨a, fC.slot⟩, ⟨a, fV.slot⟩] 1 A.slots.size := by
  refine Law.of_walk (plainFor_of_name (by decide +kernel)) (by decide +kernel) (by decide +kernel) (by decide) (fun _ _ h => by rw [h.1]; rfl) (fun _ U U' hal hh h => ⟨h.1, h.2.1.mv hal hh, h.2.2.1.al hal, h.2.2.2.1.al hal, h.2.2.2.2.1.mv hal hh, h.2.2.2.2.2.1.there hal hh, h.2.2.2.2.2.2⟩) (fun r U U' V V' h1 hal h2 h => Got.mv r U U' V V' h1 hal h2 h) ?_
  intro p e s m args below meth c s₁ X0 hexec hbytes hml hret hlk hnm hown hh0 W hP
  obtain ⟨rfl, hB, f1, f2, hA, s1, hz, l0, l2, hp⟩ := hP
  have c1 : Steps p.tables e below (s₁.setTop (entryFrame m #[.ref a, .ref b] 2)) (s₁.setTop (mkF m 0 #[.val (.ref a), .val (.ref b)] [])) := entry rfl
  have c2 : Steps p.tables e below (s₁.setTop (entryFrame m #[.ref a, .ref b] 2)) (s₁.setTop (mkF m 6 #[.val (.ref a), .val (.ref b)] [.null, .int (Int32.ofNat A.slots.size), .int 0, .ref b, .ref a])) := c1.trans (by
    refine XS.aloadN X0.here hexec rfl (hb hbytes d0) rfl rfl ?_
    refine XS.aloadN X0.here hexec rfl (hb hbytes d1) rfl rfl ?_
    refine iconstV X0.here hexec rfl 0 (hb hbytes d2) (by decide) ?_
    refine XS.aloadN X0.here hexec rfl (hb hbytes d3) rfl rfl ?_
    refine X0.alen hexec (hA.1.mv X0.warmed.alike hh0) rfl rfl (hb hbytes d4) ?_
    refine XS.aconstNull X0.here hexec rfl (hb hbytes d5) ?_
    exact Steps.refl _)
  obtain ⟨v3, T3, X3, E3, g3⟩ := X0.callN hexec (New4.law l a D fV fC b A z 0 A.slots.size) rfl hown (wks W (initW "java/lang/String" 27 New4.yN)) (W New4.tab (by simp only [site, List.mem_cons, List.mem_append, true_or, or_true])) (W := 0) (Nat.le_of_ble_eq_true rfl) (Nat.le_of_ble_eq_true rfl) (Nat.le_refl _) (by show 0 + A.slots.size ≤ A.slots.size; omega) (g := (mkF m 6 #[.val (.ref a), .val (.ref b)] [.null, .int (Int32.ofNat A.slots.size), .int (Int32.ofNat 0), .ref b, .ref a])) rfl (by rw [hml]; rfl) c2 (argsL := [.ref b, .int (Int32.ofNat 0), .int (Int32.ofNat A.slots.size), .null]) (rest := []) rfl rfl (by show 2 * 0 + 0 ≤ _; decide) (hb hbytes d6) (⟨rfl, hB.mv X0.warmed.alike hh0, f1.al X0.warmed.alike, f2.al X0.warmed.alike, hA.mv X0.warmed.alike hh0, s1.there X0.warmed.alike hh0, hz, l0, by omega, l2, fun i hi => by rw [Nat.zero_add]; exact hp i hi⟩)
  have e0 := Got.mv _ s₁ s _ _ hh0.symm (Vm.Alike.refl _) rfl E3
  obtain rfl := e0.1
  have c4 : Steps p.tables e below (s₁.setTop (entryFrame m #[.ref a, .ref b] 2)) (T3.setTop (mkF m 9 #[.val (.ref a), .val (.ref b)] [])) := g3
  exact ⟨T3, none, _, _, _, X3, by simp, rfl, by omega, (fun _ => rfl), e0, fun fs hl => c4.trans (X3.returnOut hexec hret (hb hbytes d9) hl)⟩
theorem pays {l : Launch} {R : Room} {p : Program} {e : Env} {below : List Frame} {s : State} {sargs : Array Value} {len W : Nat} (a : Addr) (D : Cell) (fV fC : Field) (b : Addr) (A : Cell) (z : Int32) (htab : tab.before sargs s = true) (hfr : 4 ≤ R.frames) (hlo : W + 65 ≤ R.locals) :
    Back l R p e below s sargs yN len W (fun A₁ a₁ => A₁.cells + 1 ≤ R.cells ∧ A₁.slots + A.slots.size ≤ R.slots ∧ P a D fV fC b A z a₁ A₁.U) (fun A₁ _ v₁ B₁ => E a D fV fC A v₁ A₁.U B₁.U ∧ B₁.locs = A₁.locs ++ [⟨a, fC.slot⟩, ⟨a, fV.slot⟩] ∧ B₁.cells = A₁.cells + 1 ∧ B₁.slots = A₁.slots + A.slots.size) :=
  (law l a D fV fC b A z).pays htab hfr (by omega)
end New1
end StrChars
namespace StrChars.Road
open Jvm Sem ClassFile Op Lib Jvm.Stand Jvm.Free Jvm.Free.XT
open Jvm.Lib.Cold (StaticIs)
abbrev ST : String := "java/lang/String"
/-- every table word that New1's law asks, flat -/
abbrev words : List Jvm.Cond := [.code New1.yN New1.yB 2 none, .initialized ST, .methodLink ST 27 New4.yN, .instanceMethod New4.yN,
  .code New4.yN New4.yB 6 none, .fieldLink ST 38 ST "COMPACT_STRINGS" "Z", .laysFinal ST ST "value" "[B", .fieldLink ST 9 ST "value" "[B", .laysFinal ST ST "coder" "B", .fieldLink ST 15 ST "coder" "B",
  .methodLink ST 1 Lib.objectInit, .instanceMethod Lib.objectInit, .code Lib.objectInit ⟨#[0xb1]⟩ 1 none, .methodLink ST 177 Cmp3.yN, .static Cmp3.yN, .methodLink ST 47 CodL.yN, .static CodL.yN,
  .code Cmp3.yN Cmp3.yB 6 (some (.array .byte)), .initialized U16, .arrayClass .byte, .methodLink U16 115 Cmp5.yN, .static Cmp5.yN, .code Cmp5.yN Cmp5.yB 7 (some .int), .code CodL.yN CodL.yB 2 (some .byte)]
theorem tab_of {a : Array Value} {s : State} (h : ∀ w ∈ words, w.before a s = true) : New1.tab.before a s = true := by
  have h5 : Cmp5.tab.before a s = true := unparts (wk h (.code Cmp5.yN Cmp5.yB 7 (some .int))) (wks h (.initialized Cmp5.yN.cls :: Cmp5.site))
  have hc : CodL.tab.before a s = true := unparts (wk h (.code CodL.yN CodL.yB 2 (some .byte))) (wks h (.initialized CodL.yN.cls :: CodL.site))
  have q5 : ∀ w ∈ Cmp5.tab :: words, w.before a s = true := fun w hw => (List.mem_cons.mp hw).elim (fun e => e ▸ h5) (h w)
  have h3 : Cmp3.tab.before a s = true := unparts (wk q5 (.code Cmp3.yN Cmp3.yB 6 (some (.array .byte)))) (wks q5 (.initialized Cmp3.yN.cls :: Cmp3.site))
  have q3 : ∀ w ∈ Cmp3.tab :: CodL.tab :: words, w.before a s = true := fun w hw => (List.mem_cons.mp hw).elim (fun e => e ▸ h3) fun hw => (List.mem_cons.mp hw).elim (fun e => e ▸ hc) (h w)
  have h4 : New4.tab.before a s = true := unparts (wk q3 (.code New4.yN New4.yB 6 none)) (wks q3 (.initialized New4.yN.cls :: New4.site))
  have q4 : ∀ w ∈ New4.tab :: words, w.before a s = true := fun w hw => (List.mem_cons.mp hw).elim (fun e => e ▸ h4) (h w)
  exact unparts (wk q4 (.code New1.yN New1.yB 2 none)) (wks q4 (.initialized New1.yN.cls :: New1.site))
/-- the words ride from the start Z to the walk's own state -/
theorem moved {Z s : State} {a0 args : Array Value} (hZ : Z.Warmed39 s.vm) (hw : ∀ d ∈ words, d.before a0 Z = true) : ∀ d ∈ words, d.before args s = true := fun d hd => by
  have q := hw d hd
  have t : ∀ d ∈ words, d = .arrayClass .byte ∨ (d.onTables && d.keepsFace) = true := by decide +kernel
  rcases t d hd with rfl | t
  · exact RoadKit.mvA hZ q
  · exact RoadKit.mv hZ q t
/-- WHAT COMES BACK, over the tables of the start Z: h the heap at the call, h' behind it -/
def Q (Z : State) (x : Addr) (A : Cell) (h : Heap) (v : Option Value) (h' : Heap) (L : List Loc) : Prop := v = none ∧ (∀ y ∈ L, y.base = x) ∧ RoadKit.Keep h h' [x] ∧ h'.size = h.size + 1 ∧ RoadKit.Exa Z h' x ST ∧ RoadKit.Fld Z h' x ST "value" "[B" (.ref h.size) ∧ RoadKit.Fld Z h' x ST "coder" "B" (.int 0) ∧
  (∃ V : Cell, RoadKit.Arr Z h' h.size V .byte ∧ V.vm = .none ∧ Z.vm.findClass "[B" = some V.cls ∧ V.slots.size = A.slots.size ∧ ∀ j, j < A.slots.size → V.slots[j]? = some (.int (lo8 (cv A j)))) ∧
  ∀ (O n d : String) (w : Value), RoadKit.Fld Z h x O n d w → RoadKit.slotOf Z O n d ≠ RoadKit.slotOf Z ST "value" "[B" → RoadKit.slotOf Z O n d ≠ RoadKit.slotOf Z ST "coder" "B" → RoadKit.Fld Z h' x O n d w
/-- **new String(chars) AT A CALL, IN THE ROAD'S FORM**: for specialBack behind newO: x the fresh String, b the char[] with the cell A -/
theorem back {p : Program} {l : Launch} {e : Env} {R : Room} {s : State} {args : Array Value} {below : List Frame} {len W : Nat} {Z : State} {a0 : Array Value} {h : Heap} (hZ : Z.Warmed39 s.vm) (hw : ∀ d ∈ words, d.before a0 Z = true) {kI : Nat} (wi : (Jvm.Cond.instantiable ST kI).before a0 Z = true)
    {x b : Addr} {A : Cell} {z : Int32} {v0 c0 : Value} (E : RoadKit.Exa Z h x ST) (V : RoadKit.Fld Z h x ST "value" "[B" v0) (C : RoadKit.Fld Z h x ST "coder" "B" c0) (K : RoadKit.Arr Z h b A .char) (hty : Typed .char A) (S : RoadKit.Sta Z h ST "COMPACT_STRINGS" "Z" (.int z)) (hz : ¬ z = 0)
    (l0 : 0 < A.slots.size) (l2 : A.slots.size ≤ 536870912) (hp : ∀ i, i < A.slots.size → ¬ 255 < cv A i) (hfr : 4 ≤ R.frames) (hlo : W + 65 ≤ R.locals) :
    Back l R p e below s args New1.yN len W (fun P a => a = #[.ref x, .ref b] ∧ P.U.heap = h ∧ P.cells + 1 ≤ R.cells ∧ P.slots + A.slots.size ≤ R.slots)
      (fun P _ v B => ∃ L, Q Z x A h v B.U.heap L ∧ B.locs = P.locs ++ L ∧ B.cells = P.cells + 1 ∧ B.slots = P.slots + A.slots.size) := by
  intro m meth c P g ig mk a X hg hsize hdg hW hn hp'
  obtain ⟨rfl, rfl, r1, r2⟩ := hp'
  have al : Z.vm.Alike P.U.vm := hZ.alike.trans X.warmed.alike
  obtain ⟨D, cfV, kV, iV, fV, hD, gV, stV, knV, obV, asV, slV⟩ := id V
  obtain ⟨D', cfC, kC, iC, fC, hD', gC, stC, -, -, asC, slC⟩ := id C
  cases hD.symm.trans hD'
  obtain ⟨D2, kD, e1, e2, e3, e4, e5⟩ := id E
  cases hD.symm.trans e1
  obtain ⟨c2, k2, i1, i2, i3, -⟩ := Cond.instantiable_spec wi
  cases e2.symm.trans i1
  cases e3.symm.trans i2
  obtain ⟨kU, u1, u2⟩ := al.2.2 _ _ e3
  have hB : Blank ST x D P.U := ⟨hD, ⟨knV, fun q hq => by rw [hq] at obV; cases obV⟩, by rw [al.findClass]; exact e2, kU, u1, by rw [u2]; exact i3, by rw [u2]; exact e5 i3⟩
  have F1 : Found ST "value" "[B" fV P.U := ⟨SBG.found_only al ⟨cfV, kV, iV, gV⟩, stV⟩
  have F2 : Found ST "coder" "B" fC P.U := ⟨SBG.found_only al ⟨cfC, kC, iC, gC⟩, stC⟩
  have hA : Ch b A P.U := ⟨⟨K.1, State.isArrayOf_alike al K.2.1, K.2.2, by omega⟩, hty⟩
  have hS : StaticIs P.U ST "COMPACT_STRINGS" "Z" (.int z) := by
    obtain ⟨cfS, iS, kS, fS, st, cS, t1, t2, t3, t4, t5, t6, t7⟩ := S
    exact StaticIs.there (s := { Z with heap := P.U.heap }) ⟨cfS, iS, kS, fS, st, cS, t1, t2, t3, t4, t5, (fun q => by rw [q] at t6; cases t6), t7⟩ al rfl
  obtain ⟨v, B, X', ⟨⟨hv, E', V', q1, q2, q3, q4, q5, q6, q7, q8, q9, q10, q11⟩, hl, hc, hs⟩, st⟩ := New1.pays x D fV fC b A z (tab_of (moved hZ hw)) hfr hlo m meth c P g ig mk _ X hg hsize hdg hW hn ⟨r1, r2, rfl, hB, F1, F2, hA, hS, hz, l0, l2, hp⟩
  have al' : Z.vm.Alike B.U.vm := hZ.alike.trans X'.warmed.alike
  have hsz : E'.slots.size = D.slots.size := by
    obtain ⟨-, -, -, kB, w1, w2, w3⟩ := q1
    obtain ⟨kB', y1, y2⟩ := al'.2.2 _ _ e3
    rw [q2.2.1] at w1
    cases w1.symm.trans y1
    rw [w3, e5 i3, y2]
  refine ⟨v, B, X', ⟨_, ⟨hv, ?_, ⟨by omega, fun y cy hy hn' => q10 y cy (by simpa using hn') hy, fun y cy hy => ?_⟩, q11, ⟨E', _, q1.1, by rw [q2.2.1]; exact e2, by rw [q2.2.1]; exact e3, by rw [q2.1]; exact obV, fun _ => by rw [hsz]; exact e5 i3⟩,
    ⟨E', cfV, kV, iV, fV, q1.1, gV, stV, by rw [q2.1]; exact knV, by rw [q2.1]; exact obV, by rw [q2.2.1]; exact asV, q3⟩, ⟨E', cfC, kC, iC, fC, q1.1, gC, stC, by rw [q2.1]; exact knV, by rw [q2.1]; exact obV, by rw [q2.2.1]; exact asC, q4⟩,
    ⟨V', ⟨q5.1, State.isArrayOf_alike al'.symm q5.2.1, q5.2.2.1⟩, q6, by rw [← al'.findClass]; exact q7, q8, fun j hj => by have := q9 j hj; rwa [Nat.zero_add] at this⟩, fun O n d w F n1 n2 => ?_⟩, hl, hc, hs⟩, st⟩
  · intro y hy
    simp only [List.mem_cons, List.not_mem_nil, or_false] at hy
    rcases hy with rfl | rfl <;> rfl
  · by_cases q : y = x
    · subst q
      cases hD.symm.trans hy
      exact ⟨E', q1.1, q2.2.1, q2.1, hsz⟩
    · exact ⟨cy, q10 y cy q hy, rfl, rfl, rfl⟩
  · obtain ⟨D3, cf, k, i, f, g1, g2, g3, g4, g5, g6, g7⟩ := F
    cases hD.symm.trans g1
    simp only [RoadKit.slotOf, g2, gV, gC, Option.map_some, Option.getD_some] at n1 n2
    exact ⟨E', cf, k, i, f, q1.1, g2, g3, by rw [q2.1]; exact g4, by rw [q2.1]; exact g5, by rw [q2.2.1]; exact g6, by rw [q2.2.2 f.slot (by simp [n1, n2])]; exact g7⟩
end StrChars.Road
namespace StrChars.Road
open Jvm Sem ClassFile Op Lib Jvm.Stand Jvm.Free Jvm.Free.XT
/-- WHAT COMES BACK, the byte[] as a list of values -/
def QA (Z : State) (x : Addr) (zn : Int32) (cs : List Int32) (h : Heap) (v : Option Value) (h' : Heap) (L : List Loc) : Prop := v = none ∧ (∀ y ∈ L, y.base = x) ∧ RoadKit.Keep h h' [x] ∧ h'.size = h.size + 1 ∧ RoadKit.Exa Z h' x ST ∧ RoadKit.Fld Z h' x ST "value" "[B" (.ref h.size) ∧ RoadKit.Fld Z h' x ST "coder" "B" (.int 0) ∧
  (∃ kb, Z.vm.findClass "[B" = some kb ∧ RoadKit.Arv Z h' h.size kb .byte zn (cs.map fun c => .int (lo8 c)) (.int 0)) ∧
  ∀ (O n d : String) (w : Value), RoadKit.Fld Z h x O n d w → RoadKit.slotOf Z O n d ≠ RoadKit.slotOf Z ST "value" "[B" → RoadKit.slotOf Z O n d ≠ RoadKit.slotOf Z ST "coder" "B" → RoadKit.Fld Z h' x O n d w
/-- **new String(chars) AT A CALL, THE ARRAYS AS LISTS**: the char[] at b holds cs, not empty, no char above 255 -/
theorem backArv {p : Program} {l : Launch} {e : Env} {R : Room} {s : State} {args : Array Value} {below : List Frame} {len W : Nat} {Z : State} {a0 : Array Value} {h : Heap} (hZ : Z.Warmed39 s.vm) (hw : ∀ d ∈ words, d.before a0 Z = true) {kI : Nat} (wi : (Jvm.Cond.instantiable ST kI).before a0 Z = true)
    {x b : Addr} {k : ClassId} {zn z : Int32} {cs : List Int32} {dv v0 c0 : Value} (E : RoadKit.Exa Z h x ST) (V : RoadKit.Fld Z h x ST "value" "[B" v0) (C : RoadKit.Fld Z h x ST "coder" "B" c0) (K : RoadKit.Arv Z h b k .char zn (cs.map Value.int) dv) (S : RoadKit.Sta Z h ST "COMPACT_STRINGS" "Z" (.int z)) (hz : ¬ z = 0)
    (hlen : zn.toNatClampNeg = cs.length) (h0 : 0 < cs.length) (hbig : cs.length ≤ 536870912) (hall : ∀ c ∈ cs, ¬ 255 < c) (hfr : 4 ≤ R.frames) (hlo : W + 65 ≤ R.locals) :
    Back l R p e below s args New1.yN len W (fun P a => a = #[.ref x, .ref b] ∧ P.U.heap = h ∧ P.cells + 1 ≤ R.cells ∧ P.slots + cs.length ≤ R.slots)
      (fun P _ v B => ∃ L, QA Z x zn cs h v B.U.heap L ∧ B.locs = P.locs ++ L ∧ B.cells = P.cells + 1 ∧ B.slots = P.slots + cs.length) := by
  obtain ⟨A, K1, K2, K3, K4, K5, K6⟩ := K
  have e : A.slots.size = cs.length := K3.trans hlen
  have hat : ∀ (i : Nat) (hi : i < cs.length), A.slots[i]? = some (.int cs[i]) := fun i hi => by rw [K5 i (by omega)]; simp [List.getD_eq_getElem?_getD, hi]
  have hcv : ∀ (i : Nat) (hi : i < cs.length), cv A i = cs[i] := fun i hi => by unfold cv; rw [hat i hi]
  have hty : Typed .char A := fun i v hv => by
    have hi : i < A.slots.size := (Array.getElem?_eq_some_iff.mp hv).1
    have q := K5 i hi
    rw [hv] at q
    rw [Option.some.inj q]
    exact K6 i hi
  refine Back.mono (back hZ hw wi E V C K1 hty S hz (by omega) (by omega) (fun i hi => by rw [hcv i (by omega)]; exact hall _ (List.getElem_mem _)) hfr hlo) (fun P a hp => ⟨hp.1, hp.2.1, hp.2.2.1, by rw [e]; exact hp.2.2.2⟩) (fun P a v B hp hq => ?_)
  obtain ⟨L, ⟨q1, q2, q3, q4, q5, q6, q7, ⟨V', v1, v2, v3, v4, v5⟩, q9⟩, hl, hc, hs⟩ := hq
  refine ⟨L, ⟨q1, q2, q3, q4, q5, q6, q7, ⟨V'.cls, v3, V', v1, rfl, by rw [v4, e, hlen], K4, fun i hi => ?_, fun i hi => ?_⟩, q9⟩, hl, hc, by rw [hs, e]⟩
  · have hi' : i < cs.length := by omega
    rw [v5 i (by omega), hcv i hi']; simp [List.getD_eq_getElem?_getD, hi']
  · have hi' : i < cs.length := by omega
    simp only [List.getD_eq_getElem?_getD, List.getElem?_map, List.getElem?_eq_getElem hi', Option.map_some, Option.getD_some]
    exact fits_lo8 _
end StrChars.Road
namespace StrChars.Road
open Jvm Sem ClassFile Op Lib Jvm.Stand Jvm.Free Jvm.Free.XT
/-- WHAT COMES BACK, in the writer's own shape -/
def QV (Z : State) (x : Addr) (N : Int32) (bs : List Int32) (h : Heap) (n0 : Nat) (v : Option Value) (h' : Heap) (L : List Loc) : Prop := v = none ∧ RoadKit.Fr n0 L ∧ RoadKit.Keep h h' [x] ∧ RoadKit.Exa Z h' x ST ∧ RoadKit.Fld Z h' x ST "coder" "B" (.int 0) ∧
  ∃ (t : Addr) (kb : ClassId), n0 ≤ t ∧ h.size ≤ t ∧ ¬ t = x ∧ RoadKit.Fld Z h' x ST "value" "[B" (.ref t) ∧ RoadKit.Arv Z h' t kb .byte N (bs.map Value.int) (.int 0)
/-- **new String(chars) AT A CALL, FOR THE WRITER**: a char[] of n known ints, each 0 to 255 -/
theorem backV {p : Program} {l : Launch} {e : Env} {R : Room} {s : State} {args : Array Value} {below : List Frame} {len W : Nat} {Z : State} {a0 : Array Value} {h : Heap} (hZ : Z.Warmed39 s.vm) (hw : ∀ d ∈ words, d.before a0 Z = true) {kI : Nat} (wi : (Jvm.Cond.instantiable ST kI).before a0 Z = true)
    {x b : Addr} {kC : ClassId} {cs bs : List Int32} {d v0 c0 : Value} {z N : Int32} {n n0 : Nat} (hx0 : n0 ≤ x) (hh0 : n0 ≤ h.size) (E : RoadKit.Exa Z h x ST) (V : RoadKit.Fld Z h x ST "value" "[B" v0) (C : RoadKit.Fld Z h x ST "coder" "B" c0) (K : RoadKit.Arv Z h b kC .char N (cs.map Value.int) d) (S : RoadKit.Sta Z h ST "COMPACT_STRINGS" "Z" (.int z)) (hz : ¬ z = 0)
    (hn : cs.length = n) (hN : N = Int32.ofNat n) (l0 : 0 < n) (l2 : n ≤ 4000) (hp : ∀ c ∈ cs, ¬ c < 0 ∧ ¬ (255 : Int32) < c) (hb : bs = cs.map (fun c => c.toInt8.toInt32)) (hfr : 4 ≤ R.frames) (hlo : W + 65 ≤ R.locals) :
    Back l R p e below s args (⟨"java/lang/String", "<init>", "([C)V"⟩ : MethodName) len W (fun P a => a = #[.ref x, .ref b] ∧ P.U.heap = h ∧ P.cells + 1 ≤ R.cells ∧ P.slots + n ≤ R.slots)
      (fun P _ v B => ∃ L, QV Z x N bs h n0 v B.U.heap L ∧ B.locs = P.locs ++ L ∧ B.cells = P.cells + 1 ∧ B.slots = P.slots + n) := by
  subst hn hN hb
  refine Back.mono (backArv hZ hw wi E V C K S hz (n32 (by omega)) l0 (by omega) (fun c hc => (hp c hc).2) hfr hlo) (fun P a hp => hp) (fun P a v B hp hq => ?_)
  obtain ⟨L, ⟨q1, q2, q3, q4, q5, q6, q7, ⟨kb, v1, v2⟩, q9⟩, hl, hc, hs⟩ := hq
  exact ⟨L, ⟨q1, fun y hy => by rw [q2 y hy]; exact hx0, q3, q5, q7, h.size, kb, hh0, Nat.le_refl _, Nat.ne_of_gt E.lt, q6, by rw [List.map_map]; exact v2⟩, hl, hc, hs⟩
end StrChars.Road
end Jvm.Pilot.@@N@@
namespace Jvm.RoadKit
open Sem ClassFile Op Lib Jvm.Stand Jvm.Free Jvm.LawKit
section New
variable {p : Program} {l : Launch} {e : Env} {R : Room} {s : State} {m : MethodId} {args : Array Value} {below : List Frame} {meth : Method} {c : Code} {T : State} {locs : List Loc} {cells slots : Nat}
theorem retI (X : Stand p l e R s m args below meth c T locs cells slots) (hx : p.tables.exec = Jvm.exec) {pc : Nat} {Ls : Array Slot} {z : Int32} {rest : List Value} (hret : meth.sig.returnType = some .int) (hd : decode c.code pc = .ok (.ireturn, 1)) {fs : List Frame}
    (hl : ∀ (f : JFrame) (acts : List Action), f.method = m → f.locked = none → f.entered = [] → (doReturn e (T.setTop f) acts (some (.int z))).1 = T.setFrames fs) : Steps p.tables e below (T.setTop (mkF m pc Ls (.int z :: rest))) (T.setFrames fs) := by
  have hm' : T.vm.method? m = some meth := X.method'
  have hn : narrow .int (.int z) = .int z := rfl
  show Steps p.tables e below (T.setTop { method := m, pc := pc, locals := Ls, stack := _ :: rest, locked := none }) _
  jvm_step X.here [X.here.top, hx, hd, hm', hret, hn]
  first | (intro acts; rw [hl _ acts rfl rfl rfl]) | rw [hl _ _ rfl rfl rfl]
  exact Steps.refl _
end New
end Jvm.RoadKit
namespace Jvm.Pilot.@@N@@
open Jvm Jvm.ClassFile Sem Op Lib Jvm.Free Jvm.Stand Jvm.LawKit Jvm.RoadKit Bundle Jvm.Pilot.@@N@@.Jvm.D
/-- where the walk stands, and what is still to come of it -/
abbrev Go (tb : Tables) (e : Env) (below : List Frame) (P : State → Outcome → Prop) (σ : State) : Prop := ∃ s₂ o, Steps tb e below σ s₂ ∧ P s₂ o
theorem go_st {tb : Tables} {e : Env} {below : List Frame} {P : State → Outcome → Prop} {σ σ' : State} (st : ∀ t, Steps tb e below σ' t → Steps tb e below σ t) (k : Go tb e below P σ') : Go tb e below P σ := by
  obtain ⟨a, b, c, d⟩ := k; exact ⟨a, b, st _ c, d⟩
theorem go_tr {tb : Tables} {e : Env} {below : List Frame} {P : State → Outcome → Prop} {σ σ' : State} (st : Steps tb e below σ σ') (k : Go tb e below P σ') : Go tb e below P σ := by
  obtain ⟨a, b, c, d⟩ := k; exact ⟨a, b, st.trans c, d⟩
theorem go_named {tb : Tables} {e : Env} {below : List Frame} {P : State → Outcome → Prop} {σ : State} (k : ∀ P', P' = P → Go tb e below P' σ) : Go tb e below P σ := k P rfl
theorem ext_rfl (h : Heap) : Ext h h := ⟨Nat.le_refl _, fun _ _ q => q⟩
theorem ext_tr {h h' h'' : Heap} (E : Ext h h') (E' : Ext h' h'') : Ext h h'' := ⟨Nat.le_trans E.1 E'.1, fun a c q => E'.2 a c (E.2 a c q)⟩
theorem ext_keep {h h' h'' : Heap} {ws : List Addr} (E : Ext h h') (K : Keep h' h'' ws) (q : ∀ x ∈ ws, h.size ≤ x) : Ext h h'' :=
  ⟨Nat.le_trans E.1 K.1, fun a c r => K.2.1 a c (E.2 a c r) fun z => absurd (Array.getElem?_eq_some_iff.mp r).1 (Nat.not_lt.mpr (q a z))⟩
theorem ext_wr {h h' h'' : Heap} {b : Addr} {sl : Nat} {v : Value} (E : Ext h h') (W : Wr h' h'' b sl v) (q : h.size ≤ b) : Ext h h'' := ext_keep E (Keep.of_wr W) (allS q all0)
theorem keep_of_ext {h h' : Heap} (E : Ext h h') : Keep h h' [] := (Keep.refl h []).ext E
theorem ref_cat {v : Value} (h : v.isRef = true) : v.category = 1 := by rcases ref_cases h with rfl | ⟨a, rfl⟩ <;> rfl
theorem ref_fits {v : Value} (C : String) (h : v.isRef = true) : fits (.object C) v = true := by rcases ref_cases h with rfl | ⟨a, rfl⟩ <;> rfl
theorem ref_narrow {v : Value} (C : String) (h : v.isRef = true) : narrow (.object C) v = v := by rcases ref_cases h with rfl | ⟨a, rfl⟩ <;> rfl
theorem w24 {Z : State} {a0 : Array Value} (hw : ∀ d ∈ tables_1, d.before a0 Z = true) : (Jvm.Cond.stringLink "java/lang/String" (7 : Nat) "").before a0 Z = true := hw _ (List.mem_of_getElem? (i := 24) rfl)
theorem pn_java_lang_Record : plainName "java/lang/Record" = true := by first | (simp [plainName, overriddenIn]; done) | decide +kernel
theorem d0_0 : decode jdk_30_method_1_code 0 = .ok (.aload_n 0, 1) := by decide +kernel
theorem d0_1 : decode jdk_30_method_1_code 1 = .ok (.invokespecial 1, 3) := by decide +kernel
theorem w43 {Z : State} {a0 : Array Value} (hw : ∀ d ∈ tables_1, d.before a0 Z = true) : (Jvm.Cond.methodLink "java/lang/Record" (1 : Nat) ({ cls := "java/lang/Object", name := "<init>", desc := "()V" } : Jvm.MethodName)).before a0 Z = true := hw _ (List.mem_of_getElem? (i := 43) rfl)
theorem w22 {Z : State} {a0 : Array Value} (hw : ∀ d ∈ tables_1, d.before a0 Z = true) : (Jvm.Cond.instanceMethod ({ cls := "java/lang/Object", name := "<init>", desc := "()V" } : Jvm.MethodName)).before a0 Z = true := hw _ (List.mem_of_getElem? (i := 22) rfl)
theorem w23 {Z : State} {a0 : Array Value} (hw : ∀ d ∈ tables_1, d.before a0 Z = true) : (Jvm.Cond.code ({ cls := "java/lang/Object", name := "<init>", desc := "()V" } : Jvm.MethodName) object_method_1_code (1 : Nat) (Option.none : Option Jvm.ClassFile.FieldType)).before a0 Z = true := hw _ (List.mem_of_getElem? (i := 23) rfl)
theorem d0_4 : decode jdk_30_method_1_code 4 = .ok (.return_, 1) := by decide +kernel
theorem pn_com_example_tuplet_tuplet_Commands_Option : plainName "com/example/tuplet/tuplet/Commands$Option" = true := by first | (simp [plainName, overriddenIn]; done) | decide +kernel
theorem d1_0 : decode prog_6_method_1_code 0 = .ok (.aload_n 0, 1) := by decide +kernel
theorem d1_1 : decode prog_6_method_1_code 1 = .ok (.invokespecial 1, 3) := by decide +kernel
theorem w42 {Z : State} {a0 : Array Value} (hw : ∀ d ∈ tables_1, d.before a0 Z = true) : (Jvm.Cond.code ({ cls := "java/lang/Record", name := "<init>", desc := "()V" } : Jvm.MethodName) jdk_30_method_1_code (1 : Nat) (Option.none : Option Jvm.ClassFile.FieldType)).before a0 Z = true := hw _ (List.mem_of_getElem? (i := 42) rfl)
theorem w41 {Z : State} {a0 : Array Value} (hw : ∀ d ∈ tables_1, d.before a0 Z = true) : (Jvm.Cond.initialized "java/lang/Record").before a0 Z = true := hw _ (List.mem_of_getElem? (i := 41) rfl)
theorem pd_0 : parseMethodDescriptor "()V" = some ⟨[], none⟩ := by decide +kernel
theorem w38 {Z : State} {a0 : Array Value} (hw : ∀ d ∈ tables_1, d.before a0 Z = true) : (Jvm.Cond.methodLink "com/example/tuplet/tuplet/Commands$Option" (1 : Nat) ({ cls := "java/lang/Record", name := "<init>", desc := "()V" } : Jvm.MethodName)).before a0 Z = true := hw _ (List.mem_of_getElem? (i := 38) rfl)
theorem w39 {Z : State} {a0 : Array Value} (hw : ∀ d ∈ tables_1, d.before a0 Z = true) : (Jvm.Cond.instanceMethod ({ cls := "java/lang/Record", name := "<init>", desc := "()V" } : Jvm.MethodName)).before a0 Z = true := hw _ (List.mem_of_getElem? (i := 39) rfl)
theorem d1_4 : decode prog_6_method_1_code 4 = .ok (.aload_n 0, 1) := by decide +kernel
theorem d1_5 : decode prog_6_method_1_code 5 = .ok (.aload_n 1, 1) := by decide +kernel
theorem d1_6 : decode prog_6_method_1_code 6 = .ok (.putfield 7, 3) := by decide +kernel
theorem w44 {Z : State} {a0 : Array Value} (hw : ∀ d ∈ tables_1, d.before a0 Z = true) : (Jvm.Cond.fieldLink "com/example/tuplet/tuplet/Commands$Option" (7 : Nat) "com/example/tuplet/tuplet/Commands$Option" "name" "Ljava/lang/String;").before a0 Z = true := hw _ (List.mem_of_getElem? (i := 44) rfl)
theorem w45 {Z : State} {a0 : Array Value} (hw : ∀ d ∈ tables_1, d.before a0 Z = true) : (Jvm.Cond.laysFinal "com/example/tuplet/tuplet/Commands$Option" "com/example/tuplet/tuplet/Commands$Option" "name" "Ljava/lang/String;").before a0 Z = true := hw _ (List.mem_of_getElem? (i := 45) rfl)
theorem w33 {Z : State} {a0 : Array Value} (hw : ∀ d ∈ tables_1, d.before a0 Z = true) : (Jvm.Cond.instantiable "com/example/tuplet/tuplet/Commands$Option" (6 : Nat)).before a0 Z = true := hw _ (List.mem_of_getElem? (i := 33) rfl)
theorem d1_9 : decode prog_6_method_1_code 9 = .ok (.aload_n 0, 1) := by decide +kernel
theorem d1_10 : decode prog_6_method_1_code 10 = .ok (.aload_n 2, 1) := by decide +kernel
theorem d1_11 : decode prog_6_method_1_code 11 = .ok (.putfield 13, 3) := by decide +kernel
theorem w46 {Z : State} {a0 : Array Value} (hw : ∀ d ∈ tables_1, d.before a0 Z = true) : (Jvm.Cond.fieldLink "com/example/tuplet/tuplet/Commands$Option" (13 : Nat) "com/example/tuplet/tuplet/Commands$Option" "kind" "Lcom/example/tuplet/tuplet/Commands$Kind;").before a0 Z = true := hw _ (List.mem_of_getElem? (i := 46) rfl)
theorem w47 {Z : State} {a0 : Array Value} (hw : ∀ d ∈ tables_1, d.before a0 Z = true) : (Jvm.Cond.laysFinal "com/example/tuplet/tuplet/Commands$Option" "com/example/tuplet/tuplet/Commands$Option" "kind" "Lcom/example/tuplet/tuplet/Commands$Kind;").before a0 Z = true := hw _ (List.mem_of_getElem? (i := 47) rfl)
theorem d1_14 : decode prog_6_method_1_code 14 = .ok (.aload_n 0, 1) := by decide +kernel
theorem d1_15 : decode prog_6_method_1_code 15 = .ok (.aload_n 3, 1) := by decide +kernel
theorem d1_16 : decode prog_6_method_1_code 16 = .ok (.putfield 17, 3) := by decide +kernel
theorem w48 {Z : State} {a0 : Array Value} (hw : ∀ d ∈ tables_1, d.before a0 Z = true) : (Jvm.Cond.fieldLink "com/example/tuplet/tuplet/Commands$Option" (17 : Nat) "com/example/tuplet/tuplet/Commands$Option" "label" "Ljava/lang/String;").before a0 Z = true := hw _ (List.mem_of_getElem? (i := 48) rfl)
theorem w49 {Z : State} {a0 : Array Value} (hw : ∀ d ∈ tables_1, d.before a0 Z = true) : (Jvm.Cond.laysFinal "com/example/tuplet/tuplet/Commands$Option" "com/example/tuplet/tuplet/Commands$Option" "label" "Ljava/lang/String;").before a0 Z = true := hw _ (List.mem_of_getElem? (i := 49) rfl)
theorem d1_19 : decode prog_6_method_1_code 19 = .ok (.aload_n 0, 1) := by decide +kernel
theorem d1_20 : decode prog_6_method_1_code 20 = .ok (.aload 4, 2) := by decide +kernel
theorem d1_22 : decode prog_6_method_1_code 22 = .ok (.putfield 20, 3) := by decide +kernel
theorem w50 {Z : State} {a0 : Array Value} (hw : ∀ d ∈ tables_1, d.before a0 Z = true) : (Jvm.Cond.fieldLink "com/example/tuplet/tuplet/Commands$Option" (20 : Nat) "com/example/tuplet/tuplet/Commands$Option" "help" "Ljava/lang/String;").before a0 Z = true := hw _ (List.mem_of_getElem? (i := 50) rfl)
theorem w51 {Z : State} {a0 : Array Value} (hw : ∀ d ∈ tables_1, d.before a0 Z = true) : (Jvm.Cond.laysFinal "com/example/tuplet/tuplet/Commands$Option" "com/example/tuplet/tuplet/Commands$Option" "help" "Ljava/lang/String;").before a0 Z = true := hw _ (List.mem_of_getElem? (i := 51) rfl)
theorem d1_25 : decode prog_6_method_1_code 25 = .ok (.aload_n 0, 1) := by decide +kernel
theorem d1_26 : decode prog_6_method_1_code 26 = .ok (.iload 5, 2) := by decide +kernel
theorem d1_28 : decode prog_6_method_1_code 28 = .ok (.putfield 23, 3) := by decide +kernel
theorem w52 {Z : State} {a0 : Array Value} (hw : ∀ d ∈ tables_1, d.before a0 Z = true) : (Jvm.Cond.fieldLink "com/example/tuplet/tuplet/Commands$Option" (23 : Nat) "com/example/tuplet/tuplet/Commands$Option" "required" "Z").before a0 Z = true := hw _ (List.mem_of_getElem? (i := 52) rfl)
theorem w53 {Z : State} {a0 : Array Value} (hw : ∀ d ∈ tables_1, d.before a0 Z = true) : (Jvm.Cond.laysFinal "com/example/tuplet/tuplet/Commands$Option" "com/example/tuplet/tuplet/Commands$Option" "required" "Z").before a0 Z = true := hw _ (List.mem_of_getElem? (i := 53) rfl)
theorem d1_31 : decode prog_6_method_1_code 31 = .ok (.aload_n 0, 1) := by decide +kernel
theorem d1_32 : decode prog_6_method_1_code 32 = .ok (.aload 6, 2) := by decide +kernel
theorem d1_34 : decode prog_6_method_1_code 34 = .ok (.putfield 27, 3) := by decide +kernel
theorem w54 {Z : State} {a0 : Array Value} (hw : ∀ d ∈ tables_1, d.before a0 Z = true) : (Jvm.Cond.fieldLink "com/example/tuplet/tuplet/Commands$Option" (27 : Nat) "com/example/tuplet/tuplet/Commands$Option" "byDefault" "Ljava/lang/String;").before a0 Z = true := hw _ (List.mem_of_getElem? (i := 54) rfl)
theorem w55 {Z : State} {a0 : Array Value} (hw : ∀ d ∈ tables_1, d.before a0 Z = true) : (Jvm.Cond.laysFinal "com/example/tuplet/tuplet/Commands$Option" "com/example/tuplet/tuplet/Commands$Option" "byDefault" "Ljava/lang/String;").before a0 Z = true := hw _ (List.mem_of_getElem? (i := 55) rfl)
theorem d1_37 : decode prog_6_method_1_code 37 = .ok (.return_, 1) := by decide +kernel
theorem pn_java_lang_String : plainName "java/lang/String" = true := by first | (simp [plainName, overriddenIn]; done) | decide +kernel
theorem d2_0 : decode jdk_42_method_66_code 0 = .ok (.aload_n 0, 1) := by decide +kernel
theorem d2_1 : decode jdk_42_method_66_code 1 = .ok (.aload_n 1, 1) := by decide +kernel
theorem d2_2 : decode jdk_42_method_66_code 2 = .ok (.if_acmp .ne 5, 3) := by decide +kernel
theorem d2_5 : decode jdk_42_method_66_code 5 = .ok (.iconst 1, 1) := by decide +kernel
theorem d2_6 : decode jdk_42_method_66_code 6 = .ok (.ireturn, 1) := by decide +kernel
theorem pn_com_example_tuplet_tuplet_OptionAsRequiredPinLaw : plainName "com/example/tuplet/tuplet/OptionAsRequiredPinLaw" = true := by first | (simp [plainName, overriddenIn]; done) | decide +kernel
theorem d3_0 : decode method_3_code 0 = .ok (.iload_n 0, 1) := by decide +kernel
theorem d3_1 : decode method_3_code 1 = .ok (.ifCond .ne 7, 3) := by decide +kernel
theorem d3_4 : decode method_3_code 4 = .ok (.getstatic 53, 3) := by decide +kernel
theorem w4 {Z : State} {a0 : Array Value} (hw : ∀ d ∈ tables_1, d.before a0 Z = true) : (Jvm.Cond.fieldLink "com/example/tuplet/tuplet/OptionAsRequiredPinLaw" (53 : Nat) "com/example/tuplet/tuplet/Commands$Kind" "FLAG" "Lcom/example/tuplet/tuplet/Commands$Kind;").before a0 Z = true := hw _ (List.mem_of_getElem? (i := 4) rfl)
theorem d3_7 : decode method_3_code 7 = .ok (.areturn, 1) := by decide +kernel
theorem d3_8 : decode method_3_code 8 = .ok (.iload_n 0, 1) := by decide +kernel
theorem d3_9 : decode method_3_code 9 = .ok (.iconst 1, 1) := by decide +kernel
theorem d3_10 : decode method_3_code 10 = .ok (.if_icmp .ne 7, 3) := by decide +kernel
theorem d3_13 : decode method_3_code 13 = .ok (.getstatic 59, 3) := by decide +kernel
theorem w115 {Z : State} {a0 : Array Value} (hw : ∀ d ∈ tables_1, d.before a0 Z = true) : (Jvm.Cond.fieldLink "com/example/tuplet/tuplet/OptionAsRequiredPinLaw" (59 : Nat) "com/example/tuplet/tuplet/Commands$Kind" "TEXT" "Lcom/example/tuplet/tuplet/Commands$Kind;").before a0 Z = true := hw _ (List.mem_of_getElem? (i := 115) rfl)
theorem d3_16 : decode method_3_code 16 = .ok (.areturn, 1) := by decide +kernel
theorem d3_17 : decode method_3_code 17 = .ok (.iload_n 0, 1) := by decide +kernel
theorem d3_18 : decode method_3_code 18 = .ok (.iconst 2, 1) := by decide +kernel
theorem d3_19 : decode method_3_code 19 = .ok (.if_icmp .ne 7, 3) := by decide +kernel
theorem d3_22 : decode method_3_code 22 = .ok (.getstatic 62, 3) := by decide +kernel
theorem w113 {Z : State} {a0 : Array Value} (hw : ∀ d ∈ tables_1, d.before a0 Z = true) : (Jvm.Cond.fieldLink "com/example/tuplet/tuplet/OptionAsRequiredPinLaw" (62 : Nat) "com/example/tuplet/tuplet/Commands$Kind" "INTEGER" "Lcom/example/tuplet/tuplet/Commands$Kind;").before a0 Z = true := hw _ (List.mem_of_getElem? (i := 113) rfl)
theorem d3_25 : decode method_3_code 25 = .ok (.areturn, 1) := by decide +kernel
theorem d3_26 : decode method_3_code 26 = .ok (.iload_n 0, 1) := by decide +kernel
theorem d3_27 : decode method_3_code 27 = .ok (.iconst 3, 1) := by decide +kernel
theorem d3_28 : decode method_3_code 28 = .ok (.if_icmp .ne 7, 3) := by decide +kernel
theorem d3_31 : decode method_3_code 31 = .ok (.getstatic 65, 3) := by decide +kernel
theorem w98 {Z : State} {a0 : Array Value} (hw : ∀ d ∈ tables_1, d.before a0 Z = true) : (Jvm.Cond.fieldLink "com/example/tuplet/tuplet/OptionAsRequiredPinLaw" (65 : Nat) "com/example/tuplet/tuplet/Commands$Kind" "PATH" "Lcom/example/tuplet/tuplet/Commands$Kind;").before a0 Z = true := hw _ (List.mem_of_getElem? (i := 98) rfl)
theorem d3_34 : decode method_3_code 34 = .ok (.areturn, 1) := by decide +kernel
theorem d3_35 : decode method_3_code 35 = .ok (.getstatic 68, 3) := by decide +kernel
theorem w111 {Z : State} {a0 : Array Value} (hw : ∀ d ∈ tables_1, d.before a0 Z = true) : (Jvm.Cond.fieldLink "com/example/tuplet/tuplet/OptionAsRequiredPinLaw" (68 : Nat) "com/example/tuplet/tuplet/Commands$Kind" "LIST" "Lcom/example/tuplet/tuplet/Commands$Kind;").before a0 Z = true := hw _ (List.mem_of_getElem? (i := 111) rfl)
theorem d3_38 : decode method_3_code 38 = .ok (.areturn, 1) := by decide +kernel
theorem w11 {Z : State} {a0 : Array Value} (hw : ∀ d ∈ tables_1, d.before a0 Z = true) : (Jvm.Cond.instantiable "java/lang/String" (4 : Nat)).before a0 Z = true := hw _ (List.mem_of_getElem? (i := 11) rfl)
theorem d4_0 : decode jdk_42_method_149_code 0 = .ok (.aload_n 0, 1) := by decide +kernel
theorem d4_1 : decode jdk_42_method_149_code 1 = .ok (.invokespecial 1, 3) := by decide +kernel
theorem w21 {Z : State} {a0 : Array Value} (hw : ∀ d ∈ tables_1, d.before a0 Z = true) : (Jvm.Cond.methodLink "java/lang/String" (1 : Nat) ({ cls := "java/lang/Object", name := "<init>", desc := "()V" } : Jvm.MethodName)).before a0 Z = true := hw _ (List.mem_of_getElem? (i := 21) rfl)
theorem d4_4 : decode jdk_42_method_149_code 4 = .ok (.iload_n 3, 1) := by decide +kernel
theorem d4_5 : decode jdk_42_method_149_code 5 = .ok (.ifCond .ne 22, 3) := by decide +kernel
theorem d4_8 : decode jdk_42_method_149_code 8 = .ok (.aload_n 0, 1) := by decide +kernel
theorem d4_9 : decode jdk_42_method_149_code 9 = .ok (.ldc 7, 2) := by decide +kernel
theorem d4_11 : decode jdk_42_method_149_code 11 = .ok (.getfield 9, 3) := by decide +kernel
theorem w30 {Z : State} {a0 : Array Value} (hw : ∀ d ∈ tables_1, d.before a0 Z = true) : (Jvm.Cond.fieldLink "java/lang/String" (9 : Nat) "java/lang/String" "value" "[B").before a0 Z = true := hw _ (List.mem_of_getElem? (i := 30) rfl)
theorem d4_14 : decode jdk_42_method_149_code 14 = .ok (.putfield 9, 3) := by decide +kernel
theorem w26 {Z : State} {a0 : Array Value} (hw : ∀ d ∈ tables_1, d.before a0 Z = true) : (Jvm.Cond.laysFinal "java/lang/String" "java/lang/String" "value" "[B").before a0 Z = true := hw _ (List.mem_of_getElem? (i := 26) rfl)
theorem d4_17 : decode jdk_42_method_149_code 17 = .ok (.aload_n 0, 1) := by decide +kernel
theorem d4_18 : decode jdk_42_method_149_code 18 = .ok (.ldc 7, 2) := by decide +kernel
theorem d4_20 : decode jdk_42_method_149_code 20 = .ok (.getfield 15, 3) := by decide +kernel
theorem w31 {Z : State} {a0 : Array Value} (hw : ∀ d ∈ tables_1, d.before a0 Z = true) : (Jvm.Cond.fieldLink "java/lang/String" (15 : Nat) "java/lang/String" "coder" "B").before a0 Z = true := hw _ (List.mem_of_getElem? (i := 31) rfl)
theorem d4_23 : decode jdk_42_method_149_code 23 = .ok (.putfield 15, 3) := by decide +kernel
theorem w27 {Z : State} {a0 : Array Value} (hw : ∀ d ∈ tables_1, d.before a0 Z = true) : (Jvm.Cond.laysFinal "java/lang/String" "java/lang/String" "coder" "B").before a0 Z = true := hw _ (List.mem_of_getElem? (i := 27) rfl)
theorem d4_26 : decode jdk_42_method_149_code 26 = .ok (.return_, 1) := by decide +kernel
theorem d5_0 : decode jdk_42_method_3_code 0 = .ok (.aload_n 0, 1) := by decide +kernel
theorem d5_1 : decode jdk_42_method_3_code 1 = .ok (.aload_n 1, 1) := by decide +kernel
theorem d5_2 : decode jdk_42_method_3_code 2 = .ok (.iconst 0, 1) := by decide +kernel
theorem d5_3 : decode jdk_42_method_3_code 3 = .ok (.aload_n 1, 1) := by decide +kernel
theorem d5_4 : decode jdk_42_method_3_code 4 = .ok (.arraylength, 1) := by decide +kernel
theorem d5_5 : decode jdk_42_method_3_code 5 = .ok (.aconst_null, 1) := by decide +kernel
theorem d5_6 : decode jdk_42_method_3_code 6 = .ok (.invokespecial 27, 3) := by decide +kernel
theorem w20 {Z : State} {a0 : Array Value} (hw : ∀ d ∈ tables_1, d.before a0 Z = true) : (Jvm.Cond.code ({ cls := "java/lang/String", name := "<init>", desc := "([CIILjava/lang/Void;)V" } : Jvm.MethodName) jdk_42_method_149_code (6 : Nat) (Option.none : Option Jvm.ClassFile.FieldType)).before a0 Z = true := hw _ (List.mem_of_getElem? (i := 20) rfl)
theorem w12 {Z : State} {a0 : Array Value} (hw : ∀ d ∈ tables_1, d.before a0 Z = true) : (Jvm.Cond.initialized "java/lang/String").before a0 Z = true := hw _ (List.mem_of_getElem? (i := 12) rfl)
theorem pd_1 : parseMethodDescriptor "([CIILjava/lang/Void;)V" = some ⟨[(.array .char), .int, .int, (.object "java/lang/Void")], none⟩ := by decide +kernel
theorem w17 {Z : State} {a0 : Array Value} (hw : ∀ d ∈ tables_1, d.before a0 Z = true) : (Jvm.Cond.methodLink "java/lang/String" (27 : Nat) ({ cls := "java/lang/String", name := "<init>", desc := "([CIILjava/lang/Void;)V" } : Jvm.MethodName)).before a0 Z = true := hw _ (List.mem_of_getElem? (i := 17) rfl)
theorem w18 {Z : State} {a0 : Array Value} (hw : ∀ d ∈ tables_1, d.before a0 Z = true) : (Jvm.Cond.instanceMethod ({ cls := "java/lang/String", name := "<init>", desc := "([CIILjava/lang/Void;)V" } : Jvm.MethodName)).before a0 Z = true := hw _ (List.mem_of_getElem? (i := 18) rfl)
theorem d5_9 : decode jdk_42_method_3_code 9 = .ok (.return_, 1) := by decide +kernel
theorem d6_0 : decode prog_6_method_10_code 0 = .ok (.aload_n 0, 1) := by decide +kernel
theorem d6_1 : decode prog_6_method_10_code 1 = .ok (.getfield 7, 3) := by decide +kernel
theorem d6_4 : decode prog_6_method_10_code 4 = .ok (.areturn, 1) := by decide +kernel
theorem d7_0 : decode prog_6_method_11_code 0 = .ok (.aload_n 0, 1) := by decide +kernel
theorem d7_1 : decode prog_6_method_11_code 1 = .ok (.getfield 13, 3) := by decide +kernel
theorem d7_4 : decode prog_6_method_11_code 4 = .ok (.areturn, 1) := by decide +kernel
theorem d8_0 : decode prog_6_method_12_code 0 = .ok (.aload_n 0, 1) := by decide +kernel
theorem d8_1 : decode prog_6_method_12_code 1 = .ok (.getfield 17, 3) := by decide +kernel
theorem d8_4 : decode prog_6_method_12_code 4 = .ok (.areturn, 1) := by decide +kernel
theorem d9_0 : decode prog_6_method_13_code 0 = .ok (.aload_n 0, 1) := by decide +kernel
theorem d9_1 : decode prog_6_method_13_code 1 = .ok (.getfield 20, 3) := by decide +kernel
theorem d9_4 : decode prog_6_method_13_code 4 = .ok (.areturn, 1) := by decide +kernel
theorem d10_0 : decode prog_6_method_15_code 0 = .ok (.aload_n 0, 1) := by decide +kernel
theorem d10_1 : decode prog_6_method_15_code 1 = .ok (.getfield 27, 3) := by decide +kernel
theorem d10_4 : decode prog_6_method_15_code 4 = .ok (.areturn, 1) := by decide +kernel
theorem d11_0 : decode prog_6_method_14_code 0 = .ok (.aload_n 0, 1) := by decide +kernel
theorem d11_1 : decode prog_6_method_14_code 1 = .ok (.getfield 23, 3) := by decide +kernel
theorem d11_4 : decode prog_6_method_14_code 4 = .ok (.ireturn, 1) := by decide +kernel
theorem d12_0 : decode prog_6_method_4_code 0 = .ok (.new 8, 3) := by decide +kernel
theorem w61 {Z : State} {a0 : Array Value} (hw : ∀ d ∈ tables_1, d.before a0 Z = true) : (Jvm.Cond.classLink "com/example/tuplet/tuplet/Commands$Option" (8 : Nat) "com/example/tuplet/tuplet/Commands$Option").before a0 Z = true := hw _ (List.mem_of_getElem? (i := 61) rfl)
theorem w34 {Z : State} {a0 : Array Value} (hw : ∀ d ∈ tables_1, d.before a0 Z = true) : (Jvm.Cond.initialized "com/example/tuplet/tuplet/Commands$Option").before a0 Z = true := hw _ (List.mem_of_getElem? (i := 34) rfl)
theorem d12_3 : decode prog_6_method_4_code 3 = .ok (.dup, 1) := by decide +kernel
theorem d12_4 : decode prog_6_method_4_code 4 = .ok (.aload_n 0, 1) := by decide +kernel
theorem d12_5 : decode prog_6_method_4_code 5 = .ok (.getfield 7, 3) := by decide +kernel
theorem d12_8 : decode prog_6_method_4_code 8 = .ok (.aload_n 0, 1) := by decide +kernel
theorem d12_9 : decode prog_6_method_4_code 9 = .ok (.getfield 13, 3) := by decide +kernel
theorem d12_12 : decode prog_6_method_4_code 12 = .ok (.aload_n 0, 1) := by decide +kernel
theorem d12_13 : decode prog_6_method_4_code 13 = .ok (.getfield 17, 3) := by decide +kernel
theorem d12_16 : decode prog_6_method_4_code 16 = .ok (.aload_n 0, 1) := by decide +kernel
theorem d12_17 : decode prog_6_method_4_code 17 = .ok (.getfield 20, 3) := by decide +kernel
theorem d12_20 : decode prog_6_method_4_code 20 = .ok (.iconst 1, 1) := by decide +kernel
theorem d12_21 : decode prog_6_method_4_code 21 = .ok (.aload_n 0, 1) := by decide +kernel
theorem d12_22 : decode prog_6_method_4_code 22 = .ok (.getfield 27, 3) := by decide +kernel
theorem d12_25 : decode prog_6_method_4_code 25 = .ok (.invokespecial 37, 3) := by decide +kernel
theorem w37 {Z : State} {a0 : Array Value} (hw : ∀ d ∈ tables_1, d.before a0 Z = true) : (Jvm.Cond.code ({ cls := "com/example/tuplet/tuplet/Commands$Option", name := "<init>", desc := "(Ljava/lang/String;Lcom/example/tuplet/tuplet/Commands$Kind;Ljava/lang/String;Ljava/lang/String;ZLjava/lang/String;)V" } : Jvm.MethodName) prog_6_method_1_code (7 : Nat) (Option.none : Option Jvm.ClassFile.FieldType)).before a0 Z = true := hw _ (List.mem_of_getElem? (i := 37) rfl)
theorem pd_2 : parseMethodDescriptor "(Ljava/lang/String;Lcom/example/tuplet/tuplet/Commands$Kind;Ljava/lang/String;Ljava/lang/String;ZLjava/lang/String;)V" = some ⟨[(.object "java/lang/String"), (.object "com/example/tuplet/tuplet/Commands$Kind"), (.object "java/lang/String"), (.object "java/lang/String"), .boolean, (.object "java/lang/String")], none⟩ := by decide +kernel
theorem w62 {Z : State} {a0 : Array Value} (hw : ∀ d ∈ tables_1, d.before a0 Z = true) : (Jvm.Cond.methodLink "com/example/tuplet/tuplet/Commands$Option" (37 : Nat) ({ cls := "com/example/tuplet/tuplet/Commands$Option", name := "<init>", desc := "(Ljava/lang/String;Lcom/example/tuplet/tuplet/Commands$Kind;Ljava/lang/String;Ljava/lang/String;ZLjava/lang/String;)V" } : Jvm.MethodName)).before a0 Z = true := hw _ (List.mem_of_getElem? (i := 62) rfl)
theorem w36 {Z : State} {a0 : Array Value} (hw : ∀ d ∈ tables_1, d.before a0 Z = true) : (Jvm.Cond.instanceMethod ({ cls := "com/example/tuplet/tuplet/Commands$Option", name := "<init>", desc := "(Ljava/lang/String;Lcom/example/tuplet/tuplet/Commands$Kind;Ljava/lang/String;Ljava/lang/String;ZLjava/lang/String;)V" } : Jvm.MethodName)).before a0 Z = true := hw _ (List.mem_of_getElem? (i := 36) rfl)
theorem d12_28 : decode prog_6_method_4_code 28 = .ok (.areturn, 1) := by decide +kernel
theorem d13_0 : decode method_4_code 0 = .ok (.iload_n 0, 1) := by decide +kernel
theorem d13_1 : decode method_4_code 1 = .ok (.sipush 255, 3) := by decide +kernel
theorem d13_4 : decode method_4_code 4 = .ok (.iand, 1) := by decide +kernel
theorem d13_5 : decode method_4_code 5 = .ok (.i2c, 1) := by decide +kernel
theorem d13_6 : decode method_4_code 6 = .ok (.istore_n 1, 1) := by decide +kernel
theorem d13_7 : decode method_4_code 7 = .ok (.iload_n 0, 1) := by decide +kernel
theorem d13_8 : decode method_4_code 8 = .ok (.bipush 8, 2) := by decide +kernel
theorem d13_10 : decode method_4_code 10 = .ok (.iushr, 1) := by decide +kernel
theorem d13_11 : decode method_4_code 11 = .ok (.sipush 255, 3) := by decide +kernel
theorem d13_14 : decode method_4_code 14 = .ok (.iand, 1) := by decide +kernel
theorem d13_15 : decode method_4_code 15 = .ok (.i2c, 1) := by decide +kernel
theorem d13_16 : decode method_4_code 16 = .ok (.istore_n 2, 1) := by decide +kernel
theorem d13_17 : decode method_4_code 17 = .ok (.iload_n 0, 1) := by decide +kernel
theorem d13_18 : decode method_4_code 18 = .ok (.bipush 16, 2) := by decide +kernel
theorem d13_20 : decode method_4_code 20 = .ok (.iushr, 1) := by decide +kernel
theorem d13_21 : decode method_4_code 21 = .ok (.iconst 3, 1) := by decide +kernel
theorem d13_22 : decode method_4_code 22 = .ok (.iand, 1) := by decide +kernel
theorem d13_23 : decode method_4_code 23 = .ok (.istore_n 3, 1) := by decide +kernel
theorem d13_24 : decode method_4_code 24 = .ok (.iload_n 3, 1) := by decide +kernel
theorem d13_25 : decode method_4_code 25 = .ok (.ifCond .ne 14, 3) := by decide +kernel
theorem d13_28 : decode method_4_code 28 = .ok (.new 31, 3) := by decide +kernel
theorem w10 {Z : State} {a0 : Array Value} (hw : ∀ d ∈ tables_1, d.before a0 Z = true) : (Jvm.Cond.classLink "com/example/tuplet/tuplet/OptionAsRequiredPinLaw" (31 : Nat) "java/lang/String").before a0 Z = true := hw _ (List.mem_of_getElem? (i := 10) rfl)
theorem d13_31 : decode method_4_code 31 = .ok (.dup, 1) := by decide +kernel
theorem d13_32 : decode method_4_code 32 = .ok (.iconst 0, 1) := by decide +kernel
theorem d13_33 : decode method_4_code 33 = .ok (.newarray .char, 2) := by decide +kernel
theorem w13 {Z : State} {a0 : Array Value} (hw : ∀ d ∈ tables_1, d.before a0 Z = true) : (Jvm.Cond.arrayClass Jvm.ClassFile.FieldType.char).before a0 Z = true := hw _ (List.mem_of_getElem? (i := 13) rfl)
theorem d13_35 : decode method_4_code 35 = .ok (.invokespecial 71, 3) := by decide +kernel
theorem w16 {Z : State} {a0 : Array Value} (hw : ∀ d ∈ tables_1, d.before a0 Z = true) : (Jvm.Cond.code ({ cls := "java/lang/String", name := "<init>", desc := "([C)V" } : Jvm.MethodName) jdk_42_method_3_code (2 : Nat) (Option.none : Option Jvm.ClassFile.FieldType)).before a0 Z = true := hw _ (List.mem_of_getElem? (i := 16) rfl)
theorem pd_3 : parseMethodDescriptor "([C)V" = some ⟨[(.array .char)], none⟩ := by decide +kernel
theorem w14 {Z : State} {a0 : Array Value} (hw : ∀ d ∈ tables_1, d.before a0 Z = true) : (Jvm.Cond.methodLink "com/example/tuplet/tuplet/OptionAsRequiredPinLaw" (71 : Nat) ({ cls := "java/lang/String", name := "<init>", desc := "([C)V" } : Jvm.MethodName)).before a0 Z = true := hw _ (List.mem_of_getElem? (i := 14) rfl)
theorem w15 {Z : State} {a0 : Array Value} (hw : ∀ d ∈ tables_1, d.before a0 Z = true) : (Jvm.Cond.instanceMethod ({ cls := "java/lang/String", name := "<init>", desc := "([C)V" } : Jvm.MethodName)).before a0 Z = true := hw _ (List.mem_of_getElem? (i := 15) rfl)
theorem d13_38 : decode method_4_code 38 = .ok (.areturn, 1) := by decide +kernel
theorem d13_39 : decode method_4_code 39 = .ok (.iload_n 3, 1) := by decide +kernel
theorem d13_40 : decode method_4_code 40 = .ok (.iconst 1, 1) := by decide +kernel
theorem d13_41 : decode method_4_code 41 = .ok (.if_icmp .ne 23, 3) := by decide +kernel
theorem d13_44 : decode method_4_code 44 = .ok (.iconst 1, 1) := by decide +kernel
theorem d13_45 : decode method_4_code 45 = .ok (.newarray .char, 2) := by decide +kernel
theorem d13_47 : decode method_4_code 47 = .ok (.astore 4, 2) := by decide +kernel
theorem d13_49 : decode method_4_code 49 = .ok (.aload 4, 2) := by decide +kernel
theorem d13_51 : decode method_4_code 51 = .ok (.iconst 0, 1) := by decide +kernel
theorem d13_52 : decode method_4_code 52 = .ok (.iload_n 1, 1) := by decide +kernel
theorem d13_53 : decode method_4_code 53 = .ok (.castore, 1) := by decide +kernel
theorem d13_54 : decode method_4_code 54 = .ok (.new 31, 3) := by decide +kernel
theorem d13_57 : decode method_4_code 57 = .ok (.dup, 1) := by decide +kernel
theorem d13_58 : decode method_4_code 58 = .ok (.aload 4, 2) := by decide +kernel
theorem d13_60 : decode method_4_code 60 = .ok (.invokespecial 71, 3) := by decide +kernel
theorem d13_63 : decode method_4_code 63 = .ok (.areturn, 1) := by decide +kernel
theorem d13_64 : decode method_4_code 64 = .ok (.iconst 2, 1) := by decide +kernel
theorem d13_65 : decode method_4_code 65 = .ok (.newarray .char, 2) := by decide +kernel
theorem d13_67 : decode method_4_code 67 = .ok (.astore 4, 2) := by decide +kernel
theorem d13_69 : decode method_4_code 69 = .ok (.aload 4, 2) := by decide +kernel
theorem d13_71 : decode method_4_code 71 = .ok (.iconst 0, 1) := by decide +kernel
theorem d13_72 : decode method_4_code 72 = .ok (.iload_n 1, 1) := by decide +kernel
theorem d13_73 : decode method_4_code 73 = .ok (.castore, 1) := by decide +kernel
theorem d13_74 : decode method_4_code 74 = .ok (.aload 4, 2) := by decide +kernel
theorem d13_76 : decode method_4_code 76 = .ok (.iconst 1, 1) := by decide +kernel
theorem d13_77 : decode method_4_code 77 = .ok (.iload_n 2, 1) := by decide +kernel
theorem d13_78 : decode method_4_code 78 = .ok (.castore, 1) := by decide +kernel
theorem d13_79 : decode method_4_code 79 = .ok (.new 31, 3) := by decide +kernel
theorem d13_82 : decode method_4_code 82 = .ok (.dup, 1) := by decide +kernel
theorem d13_83 : decode method_4_code 83 = .ok (.aload 4, 2) := by decide +kernel
theorem d13_85 : decode method_4_code 85 = .ok (.invokespecial 71, 3) := by decide +kernel
theorem d13_88 : decode method_4_code 88 = .ok (.areturn, 1) := by decide +kernel
theorem w3 {Z : State} {a0 : Array Value} (hw : ∀ d ∈ tables_1, d.before a0 Z = true) : (Jvm.Cond.code ({ cls := "com/example/tuplet/tuplet/OptionAsRequiredPinLaw", name := "kindOf", desc := "(I)Lcom/example/tuplet/tuplet/Commands$Kind;" } : Jvm.MethodName) method_3_code (1 : Nat) (Option.some (Jvm.ClassFile.FieldType.object "com/example/tuplet/tuplet/Commands$Kind"))).before a0 Z = true := hw _ (List.mem_of_getElem? (i := 3) rfl)
theorem w2 {Z : State} {a0 : Array Value} (hw : ∀ d ∈ tables_1, d.before a0 Z = true) : (Jvm.Cond.initialized "com/example/tuplet/tuplet/OptionAsRequiredPinLaw").before a0 Z = true := hw _ (List.mem_of_getElem? (i := 2) rfl)
theorem pd_4 : parseMethodDescriptor "(I)Lcom/example/tuplet/tuplet/Commands$Kind;" = some ⟨[.int], some (.object "com/example/tuplet/tuplet/Commands$Kind")⟩ := by decide +kernel
theorem w0 {Z : State} {a0 : Array Value} (hw : ∀ d ∈ tables_1, d.before a0 Z = true) : (Jvm.Cond.methodLink "com/example/tuplet/tuplet/OptionAsRequiredPinLaw" (7 : Nat) ({ cls := "com/example/tuplet/tuplet/OptionAsRequiredPinLaw", name := "kindOf", desc := "(I)Lcom/example/tuplet/tuplet/Commands$Kind;" } : Jvm.MethodName)).before a0 Z = true := hw _ (List.mem_of_getElem? (i := 0) rfl)
theorem w1 {Z : State} {a0 : Array Value} (hw : ∀ d ∈ tables_1, d.before a0 Z = true) : (Jvm.Cond.static ({ cls := "com/example/tuplet/tuplet/OptionAsRequiredPinLaw", name := "kindOf", desc := "(I)Lcom/example/tuplet/tuplet/Commands$Kind;" } : Jvm.MethodName)).before a0 Z = true := hw _ (List.mem_of_getElem? (i := 1) rfl)
theorem w9 {Z : State} {a0 : Array Value} (hw : ∀ d ∈ tables_1, d.before a0 Z = true) : (Jvm.Cond.code ({ cls := "com/example/tuplet/tuplet/OptionAsRequiredPinLaw", name := "str", desc := "(I)Ljava/lang/String;" } : Jvm.MethodName) method_4_code (5 : Nat) (Option.some (Jvm.ClassFile.FieldType.object "java/lang/String"))).before a0 Z = true := hw _ (List.mem_of_getElem? (i := 9) rfl)
theorem pd_5 : parseMethodDescriptor "(I)Ljava/lang/String;" = some ⟨[.int], some (.object "java/lang/String")⟩ := by decide +kernel
theorem w7 {Z : State} {a0 : Array Value} (hw : ∀ d ∈ tables_1, d.before a0 Z = true) : (Jvm.Cond.methodLink "com/example/tuplet/tuplet/OptionAsRequiredPinLaw" (13 : Nat) ({ cls := "com/example/tuplet/tuplet/OptionAsRequiredPinLaw", name := "str", desc := "(I)Ljava/lang/String;" } : Jvm.MethodName)).before a0 Z = true := hw _ (List.mem_of_getElem? (i := 7) rfl)
theorem w8 {Z : State} {a0 : Array Value} (hw : ∀ d ∈ tables_1, d.before a0 Z = true) : (Jvm.Cond.static ({ cls := "com/example/tuplet/tuplet/OptionAsRequiredPinLaw", name := "str", desc := "(I)Ljava/lang/String;" } : Jvm.MethodName)).before a0 Z = true := hw _ (List.mem_of_getElem? (i := 8) rfl)
theorem w32 {Z : State} {a0 : Array Value} (hw : ∀ d ∈ tables_1, d.before a0 Z = true) : (Jvm.Cond.classLink "com/example/tuplet/tuplet/OptionAsRequiredPinLaw" (17 : Nat) "com/example/tuplet/tuplet/Commands$Option").before a0 Z = true := hw _ (List.mem_of_getElem? (i := 32) rfl)
theorem w35 {Z : State} {a0 : Array Value} (hw : ∀ d ∈ tables_1, d.before a0 Z = true) : (Jvm.Cond.methodLink "com/example/tuplet/tuplet/OptionAsRequiredPinLaw" (19 : Nat) ({ cls := "com/example/tuplet/tuplet/Commands$Option", name := "<init>", desc := "(Ljava/lang/String;Lcom/example/tuplet/tuplet/Commands$Kind;Ljava/lang/String;Ljava/lang/String;ZLjava/lang/String;)V" } : Jvm.MethodName)).before a0 Z = true := hw _ (List.mem_of_getElem? (i := 35) rfl)
theorem w60 {Z : State} {a0 : Array Value} (hw : ∀ d ∈ tables_1, d.before a0 Z = true) : (Jvm.Cond.code ({ cls := "com/example/tuplet/tuplet/Commands$Option", name := "asRequired", desc := "()Lcom/example/tuplet/tuplet/Commands$Option;" } : Jvm.MethodName) prog_6_method_4_code (1 : Nat) (Option.some (Jvm.ClassFile.FieldType.object "com/example/tuplet/tuplet/Commands$Option"))).before a0 Z = true := hw _ (List.mem_of_getElem? (i := 60) rfl)
theorem pd_6 : parseMethodDescriptor "()Lcom/example/tuplet/tuplet/Commands$Option;" = some ⟨[], some (.object "com/example/tuplet/tuplet/Commands$Option")⟩ := by decide +kernel
theorem w56 {Z : State} {a0 : Array Value} (hw : ∀ d ∈ tables_1, d.before a0 Z = true) : (Jvm.Cond.methodLink "com/example/tuplet/tuplet/OptionAsRequiredPinLaw" (22 : Nat) ({ cls := "com/example/tuplet/tuplet/Commands$Option", name := "asRequired", desc := "()Lcom/example/tuplet/tuplet/Commands$Option;" } : Jvm.MethodName)).before a0 Z = true := hw _ (List.mem_of_getElem? (i := 56) rfl)
theorem w59 {Z : State} {a0 : Array Value} (hw : ∀ d ∈ tables_1, d.before a0 Z = true) : (Jvm.Cond.selects "com/example/tuplet/tuplet/Commands$Option" ({ cls := "com/example/tuplet/tuplet/Commands$Option", name := "asRequired", desc := "()Lcom/example/tuplet/tuplet/Commands$Option;" } : Jvm.MethodName) ({ cls := "com/example/tuplet/tuplet/Commands$Option", name := "asRequired", desc := "()Lcom/example/tuplet/tuplet/Commands$Option;" } : Jvm.MethodName)).before a0 Z = true := hw _ (List.mem_of_getElem? (i := 59) rfl)
theorem w57 {Z : State} {a0 : Array Value} (hw : ∀ d ∈ tables_1, d.before a0 Z = true) : (Jvm.Cond.declares ({ cls := "com/example/tuplet/tuplet/Commands$Option", name := "asRequired", desc := "()Lcom/example/tuplet/tuplet/Commands$Option;" } : Jvm.MethodName)).before a0 Z = true := hw _ (List.mem_of_getElem? (i := 57) rfl)
theorem w58 {Z : State} {a0 : Array Value} (hw : ∀ d ∈ tables_1, d.before a0 Z = true) : (Jvm.Cond.instanceMethod ({ cls := "com/example/tuplet/tuplet/Commands$Option", name := "asRequired", desc := "()Lcom/example/tuplet/tuplet/Commands$Option;" } : Jvm.MethodName)).before a0 Z = true := hw _ (List.mem_of_getElem? (i := 58) rfl)
theorem w67 {Z : State} {a0 : Array Value} (hw : ∀ d ∈ tables_1, d.before a0 Z = true) : (Jvm.Cond.code ({ cls := "com/example/tuplet/tuplet/Commands$Option", name := "byDefault", desc := "()Ljava/lang/String;" } : Jvm.MethodName) prog_6_method_15_code (1 : Nat) (Option.some (Jvm.ClassFile.FieldType.object "java/lang/String"))).before a0 Z = true := hw _ (List.mem_of_getElem? (i := 67) rfl)
theorem pd_7 : parseMethodDescriptor "()Ljava/lang/String;" = some ⟨[], some (.object "java/lang/String")⟩ := by decide +kernel
theorem w63 {Z : State} {a0 : Array Value} (hw : ∀ d ∈ tables_1, d.before a0 Z = true) : (Jvm.Cond.methodLink "com/example/tuplet/tuplet/OptionAsRequiredPinLaw" (26 : Nat) ({ cls := "com/example/tuplet/tuplet/Commands$Option", name := "byDefault", desc := "()Ljava/lang/String;" } : Jvm.MethodName)).before a0 Z = true := hw _ (List.mem_of_getElem? (i := 63) rfl)
theorem w66 {Z : State} {a0 : Array Value} (hw : ∀ d ∈ tables_1, d.before a0 Z = true) : (Jvm.Cond.selects "com/example/tuplet/tuplet/Commands$Option" ({ cls := "com/example/tuplet/tuplet/Commands$Option", name := "byDefault", desc := "()Ljava/lang/String;" } : Jvm.MethodName) ({ cls := "com/example/tuplet/tuplet/Commands$Option", name := "byDefault", desc := "()Ljava/lang/String;" } : Jvm.MethodName)).before a0 Z = true := hw _ (List.mem_of_getElem? (i := 66) rfl)
theorem w64 {Z : State} {a0 : Array Value} (hw : ∀ d ∈ tables_1, d.before a0 Z = true) : (Jvm.Cond.declares ({ cls := "com/example/tuplet/tuplet/Commands$Option", name := "byDefault", desc := "()Ljava/lang/String;" } : Jvm.MethodName)).before a0 Z = true := hw _ (List.mem_of_getElem? (i := 64) rfl)
theorem w65 {Z : State} {a0 : Array Value} (hw : ∀ d ∈ tables_1, d.before a0 Z = true) : (Jvm.Cond.instanceMethod ({ cls := "com/example/tuplet/tuplet/Commands$Option", name := "byDefault", desc := "()Ljava/lang/String;" } : Jvm.MethodName)).before a0 Z = true := hw _ (List.mem_of_getElem? (i := 65) rfl)
theorem w72 {Z : State} {a0 : Array Value} (hw : ∀ d ∈ tables_1, d.before a0 Z = true) : (Jvm.Cond.code ({ cls := "com/example/tuplet/tuplet/Commands$Option", name := "name", desc := "()Ljava/lang/String;" } : Jvm.MethodName) prog_6_method_10_code (1 : Nat) (Option.some (Jvm.ClassFile.FieldType.object "java/lang/String"))).before a0 Z = true := hw _ (List.mem_of_getElem? (i := 72) rfl)
theorem w68 {Z : State} {a0 : Array Value} (hw : ∀ d ∈ tables_1, d.before a0 Z = true) : (Jvm.Cond.methodLink "com/example/tuplet/tuplet/OptionAsRequiredPinLaw" (36 : Nat) ({ cls := "com/example/tuplet/tuplet/Commands$Option", name := "name", desc := "()Ljava/lang/String;" } : Jvm.MethodName)).before a0 Z = true := hw _ (List.mem_of_getElem? (i := 68) rfl)
theorem w71 {Z : State} {a0 : Array Value} (hw : ∀ d ∈ tables_1, d.before a0 Z = true) : (Jvm.Cond.selects "com/example/tuplet/tuplet/Commands$Option" ({ cls := "com/example/tuplet/tuplet/Commands$Option", name := "name", desc := "()Ljava/lang/String;" } : Jvm.MethodName) ({ cls := "com/example/tuplet/tuplet/Commands$Option", name := "name", desc := "()Ljava/lang/String;" } : Jvm.MethodName)).before a0 Z = true := hw _ (List.mem_of_getElem? (i := 71) rfl)
theorem w69 {Z : State} {a0 : Array Value} (hw : ∀ d ∈ tables_1, d.before a0 Z = true) : (Jvm.Cond.declares ({ cls := "com/example/tuplet/tuplet/Commands$Option", name := "name", desc := "()Ljava/lang/String;" } : Jvm.MethodName)).before a0 Z = true := hw _ (List.mem_of_getElem? (i := 69) rfl)
theorem w70 {Z : State} {a0 : Array Value} (hw : ∀ d ∈ tables_1, d.before a0 Z = true) : (Jvm.Cond.instanceMethod ({ cls := "com/example/tuplet/tuplet/Commands$Option", name := "name", desc := "()Ljava/lang/String;" } : Jvm.MethodName)).before a0 Z = true := hw _ (List.mem_of_getElem? (i := 70) rfl)
theorem w77 {Z : State} {a0 : Array Value} (hw : ∀ d ∈ tables_1, d.before a0 Z = true) : (Jvm.Cond.code ({ cls := "java/lang/String", name := "equals", desc := "(Ljava/lang/Object;)Z" } : Jvm.MethodName) jdk_42_method_66_code (3 : Nat) (Option.some Jvm.ClassFile.FieldType.boolean)).before a0 Z = true := hw _ (List.mem_of_getElem? (i := 77) rfl)
theorem pd_8 : parseMethodDescriptor "(Ljava/lang/Object;)Z" = some ⟨[(.object "java/lang/Object")], some .boolean⟩ := by decide +kernel
theorem w73 {Z : State} {a0 : Array Value} (hw : ∀ d ∈ tables_1, d.before a0 Z = true) : (Jvm.Cond.methodLink "com/example/tuplet/tuplet/OptionAsRequiredPinLaw" (30 : Nat) ({ cls := "java/lang/String", name := "equals", desc := "(Ljava/lang/Object;)Z" } : Jvm.MethodName)).before a0 Z = true := hw _ (List.mem_of_getElem? (i := 73) rfl)
theorem w76 {Z : State} {a0 : Array Value} (hw : ∀ d ∈ tables_1, d.before a0 Z = true) : (Jvm.Cond.selects "java/lang/String" ({ cls := "java/lang/String", name := "equals", desc := "(Ljava/lang/Object;)Z" } : Jvm.MethodName) ({ cls := "java/lang/String", name := "equals", desc := "(Ljava/lang/Object;)Z" } : Jvm.MethodName)).before a0 Z = true := hw _ (List.mem_of_getElem? (i := 76) rfl)
theorem w74 {Z : State} {a0 : Array Value} (hw : ∀ d ∈ tables_1, d.before a0 Z = true) : (Jvm.Cond.declares ({ cls := "java/lang/String", name := "equals", desc := "(Ljava/lang/Object;)Z" } : Jvm.MethodName)).before a0 Z = true := hw _ (List.mem_of_getElem? (i := 74) rfl)
theorem w75 {Z : State} {a0 : Array Value} (hw : ∀ d ∈ tables_1, d.before a0 Z = true) : (Jvm.Cond.instanceMethod ({ cls := "java/lang/String", name := "equals", desc := "(Ljava/lang/Object;)Z" } : Jvm.MethodName)).before a0 Z = true := hw _ (List.mem_of_getElem? (i := 75) rfl)
theorem w82 {Z : State} {a0 : Array Value} (hw : ∀ d ∈ tables_1, d.before a0 Z = true) : (Jvm.Cond.code ({ cls := "com/example/tuplet/tuplet/Commands$Option", name := "kind", desc := "()Lcom/example/tuplet/tuplet/Commands$Kind;" } : Jvm.MethodName) prog_6_method_11_code (1 : Nat) (Option.some (Jvm.ClassFile.FieldType.object "com/example/tuplet/tuplet/Commands$Kind"))).before a0 Z = true := hw _ (List.mem_of_getElem? (i := 82) rfl)
theorem pd_9 : parseMethodDescriptor "()Lcom/example/tuplet/tuplet/Commands$Kind;" = some ⟨[], some (.object "com/example/tuplet/tuplet/Commands$Kind")⟩ := by decide +kernel
theorem w78 {Z : State} {a0 : Array Value} (hw : ∀ d ∈ tables_1, d.before a0 Z = true) : (Jvm.Cond.methodLink "com/example/tuplet/tuplet/OptionAsRequiredPinLaw" (39 : Nat) ({ cls := "com/example/tuplet/tuplet/Commands$Option", name := "kind", desc := "()Lcom/example/tuplet/tuplet/Commands$Kind;" } : Jvm.MethodName)).before a0 Z = true := hw _ (List.mem_of_getElem? (i := 78) rfl)
theorem w81 {Z : State} {a0 : Array Value} (hw : ∀ d ∈ tables_1, d.before a0 Z = true) : (Jvm.Cond.selects "com/example/tuplet/tuplet/Commands$Option" ({ cls := "com/example/tuplet/tuplet/Commands$Option", name := "kind", desc := "()Lcom/example/tuplet/tuplet/Commands$Kind;" } : Jvm.MethodName) ({ cls := "com/example/tuplet/tuplet/Commands$Option", name := "kind", desc := "()Lcom/example/tuplet/tuplet/Commands$Kind;" } : Jvm.MethodName)).before a0 Z = true := hw _ (List.mem_of_getElem? (i := 81) rfl)
theorem w79 {Z : State} {a0 : Array Value} (hw : ∀ d ∈ tables_1, d.before a0 Z = true) : (Jvm.Cond.declares ({ cls := "com/example/tuplet/tuplet/Commands$Option", name := "kind", desc := "()Lcom/example/tuplet/tuplet/Commands$Kind;" } : Jvm.MethodName)).before a0 Z = true := hw _ (List.mem_of_getElem? (i := 79) rfl)
theorem w80 {Z : State} {a0 : Array Value} (hw : ∀ d ∈ tables_1, d.before a0 Z = true) : (Jvm.Cond.instanceMethod ({ cls := "com/example/tuplet/tuplet/Commands$Option", name := "kind", desc := "()Lcom/example/tuplet/tuplet/Commands$Kind;" } : Jvm.MethodName)).before a0 Z = true := hw _ (List.mem_of_getElem? (i := 80) rfl)
theorem w87 {Z : State} {a0 : Array Value} (hw : ∀ d ∈ tables_1, d.before a0 Z = true) : (Jvm.Cond.code ({ cls := "com/example/tuplet/tuplet/Commands$Option", name := "label", desc := "()Ljava/lang/String;" } : Jvm.MethodName) prog_6_method_12_code (1 : Nat) (Option.some (Jvm.ClassFile.FieldType.object "java/lang/String"))).before a0 Z = true := hw _ (List.mem_of_getElem? (i := 87) rfl)
theorem w83 {Z : State} {a0 : Array Value} (hw : ∀ d ∈ tables_1, d.before a0 Z = true) : (Jvm.Cond.methodLink "com/example/tuplet/tuplet/OptionAsRequiredPinLaw" (43 : Nat) ({ cls := "com/example/tuplet/tuplet/Commands$Option", name := "label", desc := "()Ljava/lang/String;" } : Jvm.MethodName)).before a0 Z = true := hw _ (List.mem_of_getElem? (i := 83) rfl)
theorem w86 {Z : State} {a0 : Array Value} (hw : ∀ d ∈ tables_1, d.before a0 Z = true) : (Jvm.Cond.selects "com/example/tuplet/tuplet/Commands$Option" ({ cls := "com/example/tuplet/tuplet/Commands$Option", name := "label", desc := "()Ljava/lang/String;" } : Jvm.MethodName) ({ cls := "com/example/tuplet/tuplet/Commands$Option", name := "label", desc := "()Ljava/lang/String;" } : Jvm.MethodName)).before a0 Z = true := hw _ (List.mem_of_getElem? (i := 86) rfl)
theorem w84 {Z : State} {a0 : Array Value} (hw : ∀ d ∈ tables_1, d.before a0 Z = true) : (Jvm.Cond.declares ({ cls := "com/example/tuplet/tuplet/Commands$Option", name := "label", desc := "()Ljava/lang/String;" } : Jvm.MethodName)).before a0 Z = true := hw _ (List.mem_of_getElem? (i := 84) rfl)
theorem w85 {Z : State} {a0 : Array Value} (hw : ∀ d ∈ tables_1, d.before a0 Z = true) : (Jvm.Cond.instanceMethod ({ cls := "com/example/tuplet/tuplet/Commands$Option", name := "label", desc := "()Ljava/lang/String;" } : Jvm.MethodName)).before a0 Z = true := hw _ (List.mem_of_getElem? (i := 85) rfl)
theorem w92 {Z : State} {a0 : Array Value} (hw : ∀ d ∈ tables_1, d.before a0 Z = true) : (Jvm.Cond.code ({ cls := "com/example/tuplet/tuplet/Commands$Option", name := "help", desc := "()Ljava/lang/String;" } : Jvm.MethodName) prog_6_method_13_code (1 : Nat) (Option.some (Jvm.ClassFile.FieldType.object "java/lang/String"))).before a0 Z = true := hw _ (List.mem_of_getElem? (i := 92) rfl)
theorem w88 {Z : State} {a0 : Array Value} (hw : ∀ d ∈ tables_1, d.before a0 Z = true) : (Jvm.Cond.methodLink "com/example/tuplet/tuplet/OptionAsRequiredPinLaw" (46 : Nat) ({ cls := "com/example/tuplet/tuplet/Commands$Option", name := "help", desc := "()Ljava/lang/String;" } : Jvm.MethodName)).before a0 Z = true := hw _ (List.mem_of_getElem? (i := 88) rfl)
theorem w91 {Z : State} {a0 : Array Value} (hw : ∀ d ∈ tables_1, d.before a0 Z = true) : (Jvm.Cond.selects "com/example/tuplet/tuplet/Commands$Option" ({ cls := "com/example/tuplet/tuplet/Commands$Option", name := "help", desc := "()Ljava/lang/String;" } : Jvm.MethodName) ({ cls := "com/example/tuplet/tuplet/Commands$Option", name := "help", desc := "()Ljava/lang/String;" } : Jvm.MethodName)).before a0 Z = true := hw _ (List.mem_of_getElem? (i := 91) rfl)
theorem w89 {Z : State} {a0 : Array Value} (hw : ∀ d ∈ tables_1, d.before a0 Z = true) : (Jvm.Cond.declares ({ cls := "com/example/tuplet/tuplet/Commands$Option", name := "help", desc := "()Ljava/lang/String;" } : Jvm.MethodName)).before a0 Z = true := hw _ (List.mem_of_getElem? (i := 89) rfl)
theorem w90 {Z : State} {a0 : Array Value} (hw : ∀ d ∈ tables_1, d.before a0 Z = true) : (Jvm.Cond.instanceMethod ({ cls := "com/example/tuplet/tuplet/Commands$Option", name := "help", desc := "()Ljava/lang/String;" } : Jvm.MethodName)).before a0 Z = true := hw _ (List.mem_of_getElem? (i := 90) rfl)
theorem w97 {Z : State} {a0 : Array Value} (hw : ∀ d ∈ tables_1, d.before a0 Z = true) : (Jvm.Cond.code ({ cls := "com/example/tuplet/tuplet/Commands$Option", name := "required", desc := "()Z" } : Jvm.MethodName) prog_6_method_14_code (1 : Nat) (Option.some Jvm.ClassFile.FieldType.boolean)).before a0 Z = true := hw _ (List.mem_of_getElem? (i := 97) rfl)
theorem pd_10 : parseMethodDescriptor "()Z" = some ⟨[], some .boolean⟩ := by decide +kernel
theorem w93 {Z : State} {a0 : Array Value} (hw : ∀ d ∈ tables_1, d.before a0 Z = true) : (Jvm.Cond.methodLink "com/example/tuplet/tuplet/OptionAsRequiredPinLaw" (49 : Nat) ({ cls := "com/example/tuplet/tuplet/Commands$Option", name := "required", desc := "()Z" } : Jvm.MethodName)).before a0 Z = true := hw _ (List.mem_of_getElem? (i := 93) rfl)
theorem w96 {Z : State} {a0 : Array Value} (hw : ∀ d ∈ tables_1, d.before a0 Z = true) : (Jvm.Cond.selects "com/example/tuplet/tuplet/Commands$Option" ({ cls := "com/example/tuplet/tuplet/Commands$Option", name := "required", desc := "()Z" } : Jvm.MethodName) ({ cls := "com/example/tuplet/tuplet/Commands$Option", name := "required", desc := "()Z" } : Jvm.MethodName)).before a0 Z = true := hw _ (List.mem_of_getElem? (i := 96) rfl)
theorem w94 {Z : State} {a0 : Array Value} (hw : ∀ d ∈ tables_1, d.before a0 Z = true) : (Jvm.Cond.declares ({ cls := "com/example/tuplet/tuplet/Commands$Option", name := "required", desc := "()Z" } : Jvm.MethodName)).before a0 Z = true := hw _ (List.mem_of_getElem? (i := 94) rfl)
theorem w95 {Z : State} {a0 : Array Value} (hw : ∀ d ∈ tables_1, d.before a0 Z = true) : (Jvm.Cond.instanceMethod ({ cls := "com/example/tuplet/tuplet/Commands$Option", name := "required", desc := "()Z" } : Jvm.MethodName)).before a0 Z = true := hw _ (List.mem_of_getElem? (i := 95) rfl)
theorem w5 {Z : State} {a0 : Array Value} (hw : ∀ d ∈ tables_1, d.before a0 Z = true) : (Jvm.Cond.initialized "com/example/tuplet/tuplet/Commands$Kind").before a0 Z = true := hw _ (List.mem_of_getElem? (i := 5) rfl)
theorem w6 {Z : State} {a0 : Array Value} (hw : ∀ d ∈ tables_1, d.before a0 Z = true) : (Jvm.Cond.laysStatic "com/example/tuplet/tuplet/Commands$Kind" "FLAG" "Lcom/example/tuplet/tuplet/Commands$Kind;").before a0 Z = true := hw _ (List.mem_of_getElem? (i := 6) rfl)
theorem w99 {Z : State} {a0 : Array Value} (hw : ∀ d ∈ tables_1, d.before a0 Z = true) : (Jvm.Cond.laysStatic "com/example/tuplet/tuplet/Commands$Kind" "PATH" "Lcom/example/tuplet/tuplet/Commands$Kind;").before a0 Z = true := hw _ (List.mem_of_getElem? (i := 99) rfl)
theorem w112 {Z : State} {a0 : Array Value} (hw : ∀ d ∈ tables_1, d.before a0 Z = true) : (Jvm.Cond.laysStatic "com/example/tuplet/tuplet/Commands$Kind" "LIST" "Lcom/example/tuplet/tuplet/Commands$Kind;").before a0 Z = true := hw _ (List.mem_of_getElem? (i := 112) rfl)
theorem w114 {Z : State} {a0 : Array Value} (hw : ∀ d ∈ tables_1, d.before a0 Z = true) : (Jvm.Cond.laysStatic "com/example/tuplet/tuplet/Commands$Kind" "INTEGER" "Lcom/example/tuplet/tuplet/Commands$Kind;").before a0 Z = true := hw _ (List.mem_of_getElem? (i := 114) rfl)
theorem w116 {Z : State} {a0 : Array Value} (hw : ∀ d ∈ tables_1, d.before a0 Z = true) : (Jvm.Cond.laysStatic "com/example/tuplet/tuplet/Commands$Kind" "TEXT" "Lcom/example/tuplet/tuplet/Commands$Kind;").before a0 Z = true := hw _ (List.mem_of_getElem? (i := 116) rfl)
theorem w25 {Z : State} {a0 : Array Value} (hw : ∀ d ∈ tables_1, d.before a0 Z = true) : (Jvm.Cond.arrayClass Jvm.ClassFile.FieldType.byte).before a0 Z = true := hw _ (List.mem_of_getElem? (i := 25) rfl)
theorem and255_chars (x : Int32) : ¬ nar .char ((x &&& (255 : Int32)).toUInt32.toUInt16.toUInt32.toInt32) < 0 ∧ ¬ (255 : Int32) < nar .char ((x &&& (255 : Int32)).toUInt32.toUInt16.toUInt32.toInt32) := by
  have t : ∀ k : Fin 256, ¬ nar .char ((Int32.ofNat k.val).toUInt32.toUInt16.toUInt32.toInt32) < 0 ∧ ¬ (255 : Int32) < nar .char ((Int32.ofNat k.val).toUInt32.toUInt16.toUInt32.toInt32) := by decide +kernel
  have h : (x &&& 255).toBitVec.toNat < 256 := by
    simp only [Int32.toBitVec_and, BitVec.toNat_and]
    exact Nat.lt_succ_of_le Nat.and_le_right
  have e : (x &&& 255) = Int32.ofNat (x &&& 255).toBitVec.toNat := by
    apply Int32.toBitVec_inj.mp
    show _ = BitVec.ofNat 32 _
    rw [BitVec.ofNat_toNat]; simp
  rw [e]
  exact t ⟨_, h⟩
theorem chars_nil : ∀ c ∈ ([] : List Int32), ¬ c < 0 ∧ ¬ (255 : Int32) < c := fun _ h => nomatch h
theorem chars_cons {c : Int32} {L : List Int32} (h : ¬ c < 0 ∧ ¬ (255 : Int32) < c) (r : ∀ c ∈ L, ¬ c < 0 ∧ ¬ (255 : Int32) < c) : ∀ d ∈ c :: L, ¬ d < 0 ∧ ¬ (255 : Int32) < d := fun d q => (List.mem_cons.mp q).elim (fun u => u ▸ h) (r d)
theorem words_in (hs : ∀ d ∈ StrChars.Road.words, d ∈ tables_1) {Z : State} {a0 : Array Value} (hw : ∀ d ∈ tables_1, d.before a0 Z = true) : ∀ d ∈ StrChars.Road.words, d.before a0 Z = true := fun d hd => hw d (hs d hd)
theorem str_words : ∀ d ∈ StrChars.Road.words, d ∈ tables_1 := by decide +kernel

theorem hEL {Z : State} {a0 : Array Value} (hw : ∀ d ∈ tables_1, d.before a0 Z = true) : EW Z a0 consts_1 := (EW.cons (w24 hw) (by decide) EW.nil)
theorem str_atoms {Z : State} {a0 : Array Value} (hw : ∀ d ∈ tables_1, d.before a0 Z = true) : ∀ a ∈ Bundle.stringAtoms, a.before a0 Z = true := fun d hd => hw d ((by decide +kernel : ∀ d ∈ Bundle.stringAtoms, d ∈ tables_1) d hd)
def Q_rec (Z : State) (a1 : Addr) (h0 : Heap) (n0 : Nat) (vR : Option Value) (h : Heap) (L : List Loc) : Prop := vR = none ∧ Fr n0 L ∧ h = h0
theorem ef_rec (m : MethodId) (x0 : Addr) : entryFrame m #[(.ref x0)] 1 = mkF m 0 #[.val (.ref x0)] [] := by first | (simp [entryFrame, mkF, argsToLocals, Value.category]; done) | rfl
set_option maxRecDepth 65536 in
set_option maxHeartbeats 40000000 in
theorem rm_rec (l : Launch) (Z : State) (a0 : Array Value) (hw : ∀ d ∈ tables_1, d.before a0 Z = true) (ws : List Jvm.Cond) (a1 : Addr) (h0 : Heap) (n0 : Nat) (Z0 : n0 ≤ h0.size)  :
    MetFree l (⟨"java/lang/Record", "<init>", "()V"⟩ : MethodName) (head1 (Jvm.Cond.code (⟨"java/lang/Record", "<init>", "()V"⟩ : MethodName) jdk_30_method_1_code 1 none :: ws) ({ frames := 1, cells := 0, slots := 0, locals := 12 } : Room)) (fun a U => a = #[(.ref a1)] ∧ Z.Warmed39 U.vm ∧ U.heap = h0) (fun _ _ _ _ _ => True) (fun _ U o U' => ∃ v L, o = .returned v ∧ Q_rec Z a1 h0 n0 v U'.heap L ∧ FrameEnd U o U' L ({ frames := 1, cells := 0, slots := 0, locals := 12 } : Room).cells ({ frames := 1, cells := 0, slots := 0, locals := 12 } : Room).slots) := by
  refine MetFree.of_bodySF (plainFor_of_name pn_java_lang_Record) hisR ?_
  intro p e s m args below meth c s₁ Bd hml0 hP hK
  obtain ⟨rfl, hZ, hh⟩ := hP
  have hx := Bd.exec
  have hby := Bd.bytes
  have hml : c.maxLocals = 1 := hml0
  have hown : s.vm.findClass "java/lang/Record" = some m.cls := findClass_of_methodNamed Bd.named
  have hnm := (name_of_methodNamed Bd.named Bd.method).1
  have X0 : Stand p l e ({ frames := 1, cells := 0, slots := 0, locals := 12 } : Room) s m #[(.ref a1)] below meth c s₁ [] 0 0 := Stand.of_body Bd
  have e0 : s₁.heap = h0 := by rw [← hh, Bd.state]; rfl
  have N0 := Fr.nil n0
  refine go_st (fun t k => castTop (ef_rec m a1) k) ?_
  show Go _ _ _ _ (s₁.setTop (mkF m 0 #[rv a1] []))
  refine go_st (fun t k => XS.aloadN X0.here hx rfl (hb hby d0_0) rfl rfl k) ?_
  show Go _ _ _ _ (s₁.setTop (mkF m 1 #[rv a1] [(.ref a1)]))
  obtain ⟨T1, X1, e1, st1⟩ := initO X0 hx hZ hown (w43 hw) (w22 hw) (w23 hw) e0 (g := (mkF m 1 #[rv a1] [(.ref a1)])) rfl (by rw [hml]; rfl) rfl (hb hby d0_1) (by decide) (W := 0) (by show 2 * 0 + _ ≤ _; exact Nat.le_of_eq rfl) (by decide)
  refine go_st (fun t k => st1 t k) ?_
  show Go _ _ _ _ (T1.setTop (mkF m 4 #[rv a1] []))
  obtain ⟨fs, hr, hrun, hended, hW, hsame⟩ := X1.leave (v := none) (fun _ => rfl)
  refine ⟨_, _, ?_, hrun, hended, _, _, rfl, ?_, ⟨_, rfl⟩, hW, hsame.mono (by decide) (by decide)⟩
  · exact X1.returnOut hx Bd.returns (hb hby d0_4) hr
  · show Q_rec _ _ _ _ _ T1.heap _
    rw [e1]
    exact ⟨rfl, N0, rfl⟩
def Q_ctor0 (Z : State) (a1 : Addr) (v0 : Value) (v1 : Value) (v2 : Value) (v3 : Value) (v5 : Value) (h0 : Heap) (n0 : Nat) (vR : Option Value) (h : Heap) (L : List Loc) : Prop := vR = none ∧ Fr n0 L ∧ Keep h0 h [a1] ∧ (Exa Z h a1 "com/example/tuplet/tuplet/Commands$Option") ∧ (Fld Z h a1 "com/example/tuplet/tuplet/Commands$Option" "name" "Ljava/lang/String;" v0) ∧ (Fld Z h a1 "com/example/tuplet/tuplet/Commands$Option" "kind" "Lcom/example/tuplet/tuplet/Commands$Kind;" v1) ∧ (Fld Z h a1 "com/example/tuplet/tuplet/Commands$Option" "label" "Ljava/lang/String;" v2) ∧ (Fld Z h a1 "com/example/tuplet/tuplet/Commands$Option" "help" "Ljava/lang/String;" v3) ∧ (Fld Z h a1 "com/example/tuplet/tuplet/Commands$Option" "required" "Z" (.int 0)) ∧ (Fld Z h a1 "com/example/tuplet/tuplet/Commands$Option" "byDefault" "Ljava/lang/String;" v5)
theorem ef_ctor0 (m : MethodId) (x0 : Addr) (x1 : Value) (hx1 : x1.isRef = true) (x2 : Value) (hx2 : x2.isRef = true) (x3 : Value) (hx3 : x3.isRef = true) (x4 : Value) (hx4 : x4.isRef = true) (x5 : Int32) (x6 : Value) (hx6 : x6.isRef = true) : entryFrame m #[(.ref x0), x1, x2, x3, x4, (.int x5), x6] 7 = mkF m 0 #[.val (.ref x0), .val x1, .val x2, .val x3, .val x4, .val (.int x5), .val x6] [] := by rcases ref_cases hx1 with rfl | ⟨y1, rfl⟩ <;> rcases ref_cases hx2 with rfl | ⟨y2, rfl⟩ <;> rcases ref_cases hx3 with rfl | ⟨y3, rfl⟩ <;> rcases ref_cases hx4 with rfl | ⟨y4, rfl⟩ <;> rcases ref_cases hx6 with rfl | ⟨y6, rfl⟩ <;> simp [entryFrame, mkF, argsToLocals, Value.category]
set_option maxRecDepth 65536 in
set_option maxHeartbeats 40000000 in
theorem rm_ctor0 (l : Launch) (Z : State) (a0 : Array Value) (hw : ∀ d ∈ tables_1, d.before a0 Z = true) (ws : List Jvm.Cond) (a1 : Addr) (v0 : Value) (v1 : Value) (v2 : Value) (v3 : Value) (v5 : Value) (h0 : Heap) (n0 : Nat) (Z0 : n0 ≤ h0.size) (H0 : Exa Z h0 a1 "com/example/tuplet/tuplet/Commands$Option") (H1 : Fld Z h0 a1 "com/example/tuplet/tuplet/Commands$Option" "name" "Ljava/lang/String;" .null) (H2 : Fld Z h0 a1 "com/example/tuplet/tuplet/Commands$Option" "kind" "Lcom/example/tuplet/tuplet/Commands$Kind;" .null) (H3 : Fld Z h0 a1 "com/example/tuplet/tuplet/Commands$Option" "label" "Ljava/lang/String;" .null) (H4 : Fld Z h0 a1 "com/example/tuplet/tuplet/Commands$Option" "help" "Ljava/lang/String;" .null) (H5 : Fld Z h0 a1 "com/example/tuplet/tuplet/Commands$Option" "required" "Z" (.int 0)) (H6 : Fld Z h0 a1 "com/example/tuplet/tuplet/Commands$Option" "byDefault" "Ljava/lang/String;" .null) (g_a1 : n0 ≤ a1) (hv0 : v0.isRef = true) (hv1 : v1.isRef = true) (hv2 : v2.isRef = true) (hv3 : v3.isRef = true) (hv5 : v5.isRef = true) :
    MetFree l (⟨"com/example/tuplet/tuplet/Commands$Option", "<init>", "(Ljava/lang/String;Lcom/example/tuplet/tuplet/Commands$Kind;Ljava/lang/String;Ljava/lang/String;ZLjava/lang/String;)V"⟩ : MethodName) (head1 (Jvm.Cond.code (⟨"com/example/tuplet/tuplet/Commands$Option", "<init>", "(Ljava/lang/String;Lcom/example/tuplet/tuplet/Commands$Kind;Ljava/lang/String;Ljava/lang/String;ZLjava/lang/String;)V"⟩ : MethodName) prog_6_method_1_code 7 none :: ws) ({ frames := 2, cells := 0, slots := 0, locals := 24 } : Room)) (fun a U => a = #[(.ref a1), v0, v1, v2, v3, (.int 0), v5] ∧ Z.Warmed39 U.vm ∧ U.heap = h0) (fun _ _ _ _ _ => True) (fun _ U o U' => ∃ v L, o = .returned v ∧ Q_ctor0 Z a1 v0 v1 v2 v3 v5 h0 n0 v U'.heap L ∧ FrameEnd U o U' L ({ frames := 2, cells := 0, slots := 0, locals := 24 } : Room).cells ({ frames := 2, cells := 0, slots := 0, locals := 24 } : Room).slots) := by
  refine MetFree.of_bodySF (plainFor_of_name pn_com_example_tuplet_tuplet_Commands_Option) hisR ?_
  intro p e s m args below meth c s₁ Bd hml0 hP hK
  obtain ⟨rfl, hZ, hh⟩ := hP
  have hx := Bd.exec
  have hby := Bd.bytes
  have hml : c.maxLocals = 7 := hml0
  have hown : s.vm.findClass "com/example/tuplet/tuplet/Commands$Option" = some m.cls := findClass_of_methodNamed Bd.named
  have hnm := (name_of_methodNamed Bd.named Bd.method).1
  have X0 : Stand p l e ({ frames := 2, cells := 0, slots := 0, locals := 24 } : Room) s m #[(.ref a1), v0, v1, v2, v3, (.int 0), v5] below meth c s₁ [] 0 0 := Stand.of_body Bd
  have e0 : s₁.heap = h0 := by rw [← hh, Bd.state]; rfl
  have N0 := Fr.nil n0
  refine go_st (fun t k => castTop (ef_ctor0 m a1 v0 hv0 v1 hv1 v2 hv2 v3 hv3 (0 : Int32) v5 hv5) k) ?_
  show Go _ _ _ _ (s₁.setTop (mkF m 0 #[rv a1, .val v0, .val v1, .val v2, .val v3, iv 0, .val v5] []))
  refine go_st (fun t k => XS.aloadN X0.here hx rfl (hb hby d1_0) rfl rfl k) ?_
  show Go _ _ _ _ (s₁.setTop (mkF m 1 #[rv a1, .val v0, .val v1, .val v2, .val v3, iv 0, .val v5] [(.ref a1)]))
  obtain ⟨_, _, ⟨T1, L1, kk1, nn1⟩, -, X1, ⟨Lc1, hQ1, lq1, yq1, zq1⟩, st1⟩ := X0.specialBack hx (y := (⟨"java/lang/Record", "<init>", "()V"⟩ : MethodName)) rfl hown (mvT hZ (w38 hw)) (mvT hZ (w39 hw)) (mvT hZ (w42 hw)) (by decide) (backOf (W := 0) (rm_rec l Z a0 hw [] a1 h0 n0 (Nat.le_trans Z0 (Nat.le_refl _)) ) hZ (w42 hw) (w41 hw) (by decide) (by decide)) (g := (mkF m 1 #[rv a1, .val v0, .val v1, .val v2, .val v3, iv 0, .val v5] [(.ref a1)])) rfl (by rw [hml]; rfl) (Steps.refl _) (a := a1) (argsL := []) (rest := []) (lenOf pd_0 rfl) rfl (by show 2 * 0 + _ ≤ _; exact Nat.le_of_eq rfl) (hb hby d1_1) (fun _ _ => ⟨rfl, e0, (by decide : 0 + 0 ≤ _), (by decide : 0 + 0 ≤ _)⟩)
  dsimp only [Pt.U, Pt.locs, Pt.cells, Pt.slots] at X1 lq1 yq1 zq1 st1 hQ1
  subst lq1 yq1 zq1
  obtain ⟨h1, e1⟩ : ∃ z, T1.heap = z := ⟨_, rfl⟩
  rw [e1] at hQ1
  obtain ⟨rfl, N1q, he1⟩ := hQ1
  have N1 := Fr.app N0 N1q
  rw [he1] at e1
  refine go_tr st1 ?_
  show Go _ _ _ _ (T1.setTop (mkF m 4 #[rv a1, .val v0, .val v1, .val v2, .val v3, iv 0, .val v5] []))
  refine go_st (fun t k => XS.aloadN X1.here hx rfl (hb hby d1_4) rfl rfl k) ?_
  show Go _ _ _ _ (T1.setTop (mkF m 5 #[rv a1, .val v0, .val v1, .val v2, .val v3, iv 0, .val v5] [(.ref a1)]))
  refine go_st (fun t k => XS.aloadN X1.here hx rfl (hb hby d1_5) rfl hv0 k) ?_
  show Go _ _ _ _ (T1.setTop (mkF m 6 #[rv a1, .val v0, .val v1, .val v2, .val v3, iv 0, .val v5] [v0, (.ref a1)]))
  obtain ⟨T2, h2, X2, e2, W2, st2⟩ := putF X1 hx hZ hown (host := "") (Or.inl (w44 hw)) Via.refl e1 H1 H0 (Or.inr ⟨(w45 hw), rfl, hnm⟩) (w33 hw) (ty := (.object "java/lang/String")) (by decide) (ref_narrow _ hv0) (ref_fits _ hv0) (g := (mkF m 6 #[rv a1, .val v0, .val v1, .val v2, .val v3, iv 0, .val v5] [v0, (.ref a1)])) rfl rfl (hb hby d1_6)
  have N2 := Fr.snoc X2 N1 g_a1
  have f3 : Fld Z h2 a1 "com/example/tuplet/tuplet/Commands$Option" "name" "Ljava/lang/String;" v0 := H1.same W2
  refine go_st (fun t k => st2 t k) ?_
  show Go _ _ _ _ (T2.setTop (mkF m 9 #[rv a1, .val v0, .val v1, .val v2, .val v3, iv 0, .val v5] []))
  refine go_st (fun t k => XS.aloadN X2.here hx rfl (hb hby d1_9) rfl rfl k) ?_
  show Go _ _ _ _ (T2.setTop (mkF m 10 #[rv a1, .val v0, .val v1, .val v2, .val v3, iv 0, .val v5] [(.ref a1)]))
  refine go_st (fun t k => XS.aloadN X2.here hx rfl (hb hby d1_10) rfl hv1 k) ?_
  show Go _ _ _ _ (T2.setTop (mkF m 11 #[rv a1, .val v0, .val v1, .val v2, .val v3, iv 0, .val v5] [v1, (.ref a1)]))
  have f4 : Fld Z h2 a1 "com/example/tuplet/tuplet/Commands$Option" "kind" "Lcom/example/tuplet/tuplet/Commands$Kind;" .null := (H2.other W2 (Or.inr (slot_ne (Or.inr (w47 hw)) (Or.inr (w45 hw)) (by decide) (t := (.object "com/example/tuplet/tuplet/Commands$Kind")) (t' := (.object "java/lang/String")) (by decide) (by decide))))
  have f5 : Exa Z h2 a1 "com/example/tuplet/tuplet/Commands$Option" := (H0.wr W2)
  obtain ⟨T6, h6, X6, e6, W6, st6⟩ := putF X2 hx hZ hown (host := "") (Or.inl (w46 hw)) Via.refl e2 f4 f5 (Or.inr ⟨(w47 hw), rfl, hnm⟩) (w33 hw) (ty := (.object "com/example/tuplet/tuplet/Commands$Kind")) (by decide) (ref_narrow _ hv1) (ref_fits _ hv1) (g := (mkF m 11 #[rv a1, .val v0, .val v1, .val v2, .val v3, iv 0, .val v5] [v1, (.ref a1)])) rfl rfl (hb hby d1_11)
  have N6 := Fr.snoc X6 N2 g_a1
  have f7 : Fld Z h6 a1 "com/example/tuplet/tuplet/Commands$Option" "kind" "Lcom/example/tuplet/tuplet/Commands$Kind;" v1 := f4.same W6
  refine go_st (fun t k => st6 t k) ?_
  show Go _ _ _ _ (T6.setTop (mkF m 14 #[rv a1, .val v0, .val v1, .val v2, .val v3, iv 0, .val v5] []))
  refine go_st (fun t k => XS.aloadN X6.here hx rfl (hb hby d1_14) rfl rfl k) ?_
  show Go _ _ _ _ (T6.setTop (mkF m 15 #[rv a1, .val v0, .val v1, .val v2, .val v3, iv 0, .val v5] [(.ref a1)]))
  refine go_st (fun t k => XS.aloadN X6.here hx rfl (hb hby d1_15) rfl hv2 k) ?_
  show Go _ _ _ _ (T6.setTop (mkF m 16 #[rv a1, .val v0, .val v1, .val v2, .val v3, iv 0, .val v5] [v2, (.ref a1)]))
  have f8 : Fld Z h6 a1 "com/example/tuplet/tuplet/Commands$Option" "label" "Ljava/lang/String;" .null := ((H3.other W2 (Or.inr (slot_ne (Or.inr (w49 hw)) (Or.inr (w45 hw)) (by decide) (t := (.object "java/lang/String")) (t' := (.object "java/lang/String")) (by decide) (by decide)))).other W6 (Or.inr (slot_ne (Or.inr (w49 hw)) (Or.inr (w47 hw)) (by decide) (t := (.object "java/lang/String")) (t' := (.object "com/example/tuplet/tuplet/Commands$Kind")) (by decide) (by decide))))
  have f9 : Exa Z h6 a1 "com/example/tuplet/tuplet/Commands$Option" := (f5.wr W6)
  obtain ⟨T10, h10, X10, e10, W10, st10⟩ := putF X6 hx hZ hown (host := "") (Or.inl (w48 hw)) Via.refl e6 f8 f9 (Or.inr ⟨(w49 hw), rfl, hnm⟩) (w33 hw) (ty := (.object "java/lang/String")) (by decide) (ref_narrow _ hv2) (ref_fits _ hv2) (g := (mkF m 16 #[rv a1, .val v0, .val v1, .val v2, .val v3, iv 0, .val v5] [v2, (.ref a1)])) rfl rfl (hb hby d1_16)
  have N10 := Fr.snoc X10 N6 g_a1
  have f11 : Fld Z h10 a1 "com/example/tuplet/tuplet/Commands$Option" "label" "Ljava/lang/String;" v2 := f8.same W10
  refine go_st (fun t k => st10 t k) ?_
  show Go _ _ _ _ (T10.setTop (mkF m 19 #[rv a1, .val v0, .val v1, .val v2, .val v3, iv 0, .val v5] []))
  refine go_st (fun t k => XS.aloadN X10.here hx rfl (hb hby d1_19) rfl rfl k) ?_
  show Go _ _ _ _ (T10.setTop (mkF m 20 #[rv a1, .val v0, .val v1, .val v2, .val v3, iv 0, .val v5] [(.ref a1)]))
  refine go_st (fun t k => XS.aload X10.here hx rfl (hb hby d1_20) rfl hv3 k) ?_
  show Go _ _ _ _ (T10.setTop (mkF m 22 #[rv a1, .val v0, .val v1, .val v2, .val v3, iv 0, .val v5] [v3, (.ref a1)]))
  have f12 : Fld Z h10 a1 "com/example/tuplet/tuplet/Commands$Option" "help" "Ljava/lang/String;" .null := (((H4.other W2 (Or.inr (slot_ne (Or.inr (w51 hw)) (Or.inr (w45 hw)) (by decide) (t := (.object "java/lang/String")) (t' := (.object "java/lang/String")) (by decide) (by decide)))).other W6 (Or.inr (slot_ne (Or.inr (w51 hw)) (Or.inr (w47 hw)) (by decide) (t := (.object "java/lang/String")) (t' := (.object "com/example/tuplet/tuplet/Commands$Kind")) (by decide) (by decide)))).other W10 (Or.inr (slot_ne (Or.inr (w51 hw)) (Or.inr (w49 hw)) (by decide) (t := (.object "java/lang/String")) (t' := (.object "java/lang/String")) (by decide) (by decide))))
  have f13 : Exa Z h10 a1 "com/example/tuplet/tuplet/Commands$Option" := (f9.wr W10)
  obtain ⟨T14, h14, X14, e14, W14, st14⟩ := putF X10 hx hZ hown (host := "") (Or.inl (w50 hw)) Via.refl e10 f12 f13 (Or.inr ⟨(w51 hw), rfl, hnm⟩) (w33 hw) (ty := (.object "java/lang/String")) (by decide) (ref_narrow _ hv3) (ref_fits _ hv3) (g := (mkF m 22 #[rv a1, .val v0, .val v1, .val v2, .val v3, iv 0, .val v5] [v3, (.ref a1)])) rfl rfl (hb hby d1_22)
  have N14 := Fr.snoc X14 N10 g_a1
  have f15 : Fld Z h14 a1 "com/example/tuplet/tuplet/Commands$Option" "help" "Ljava/lang/String;" v3 := f12.same W14
  refine go_st (fun t k => st14 t k) ?_
  show Go _ _ _ _ (T14.setTop (mkF m 25 #[rv a1, .val v0, .val v1, .val v2, .val v3, iv 0, .val v5] []))
  refine go_st (fun t k => XS.aloadN X14.here hx rfl (hb hby d1_25) rfl rfl k) ?_
  show Go _ _ _ _ (T14.setTop (mkF m 26 #[rv a1, .val v0, .val v1, .val v2, .val v3, iv 0, .val v5] [(.ref a1)]))
  refine go_st (fun t k => XS.iload X14.here hx rfl (hb hby d1_26) rfl k) ?_
  show Go _ _ _ _ (T14.setTop (mkF m 28 #[rv a1, .val v0, .val v1, .val v2, .val v3, iv 0, .val v5] [(.int 0), (.ref a1)]))
  have f16 : Fld Z h14 a1 "com/example/tuplet/tuplet/Commands$Option" "required" "Z" (.int 0) := ((((H5.other W2 (Or.inr (slot_ne (Or.inr (w53 hw)) (Or.inr (w45 hw)) (by decide) (t := .boolean) (t' := (.object "java/lang/String")) (by decide) (by decide)))).other W6 (Or.inr (slot_ne (Or.inr (w53 hw)) (Or.inr (w47 hw)) (by decide) (t := .boolean) (t' := (.object "com/example/tuplet/tuplet/Commands$Kind")) (by decide) (by decide)))).other W10 (Or.inr (slot_ne (Or.inr (w53 hw)) (Or.inr (w49 hw)) (by decide) (t := .boolean) (t' := (.object "java/lang/String")) (by decide) (by decide)))).other W14 (Or.inr (slot_ne (Or.inr (w53 hw)) (Or.inr (w51 hw)) (by decide) (t := .boolean) (t' := (.object "java/lang/String")) (by decide) (by decide))))
  have f17 : Exa Z h14 a1 "com/example/tuplet/tuplet/Commands$Option" := (f13.wr W14)
  obtain ⟨T18, h18, X18, e18, W18, st18⟩ := putFN X14 hx hZ hown (w52 hw) Via.refl e14 f16 f17 (Or.inr ⟨(w53 hw), rfl, hnm⟩) (w33 hw) (ty := .boolean) (v' := (.int 0)) (by decide) rfl rfl (g := (mkF m 28 #[rv a1, .val v0, .val v1, .val v2, .val v3, iv 0, .val v5] [(.int 0), (.ref a1)])) rfl rfl (hb hby d1_28)
  have N18 := Fr.snoc X18 N14 g_a1
  have f19 : Fld Z h18 a1 "com/example/tuplet/tuplet/Commands$Option" "required" "Z" (.int 0) := f16.same W18
  refine go_st (fun t k => st18 t k) ?_
  show Go _ _ _ _ (T18.setTop (mkF m 31 #[rv a1, .val v0, .val v1, .val v2, .val v3, iv 0, .val v5] []))
  refine go_st (fun t k => XS.aloadN X18.here hx rfl (hb hby d1_31) rfl rfl k) ?_
  show Go _ _ _ _ (T18.setTop (mkF m 32 #[rv a1, .val v0, .val v1, .val v2, .val v3, iv 0, .val v5] [(.ref a1)]))
  refine go_st (fun t k => XS.aload X18.here hx rfl (hb hby d1_32) rfl hv5 k) ?_
  show Go _ _ _ _ (T18.setTop (mkF m 34 #[rv a1, .val v0, .val v1, .val v2, .val v3, iv 0, .val v5] [v5, (.ref a1)]))
  have f20 : Fld Z h18 a1 "com/example/tuplet/tuplet/Commands$Option" "byDefault" "Ljava/lang/String;" .null := (((((H6.other W2 (Or.inr (slot_ne (Or.inr (w55 hw)) (Or.inr (w45 hw)) (by decide) (t := (.object "java/lang/String")) (t' := (.object "java/lang/String")) (by decide) (by decide)))).other W6 (Or.inr (slot_ne (Or.inr (w55 hw)) (Or.inr (w47 hw)) (by decide) (t := (.object "java/lang/String")) (t' := (.object "com/example/tuplet/tuplet/Commands$Kind")) (by decide) (by decide)))).other W10 (Or.inr (slot_ne (Or.inr (w55 hw)) (Or.inr (w49 hw)) (by decide) (t := (.object "java/lang/String")) (t' := (.object "java/lang/String")) (by decide) (by decide)))).other W14 (Or.inr (slot_ne (Or.inr (w55 hw)) (Or.inr (w51 hw)) (by decide) (t := (.object "java/lang/String")) (t' := (.object "java/lang/String")) (by decide) (by decide)))).other W18 (Or.inr (slot_ne (Or.inr (w55 hw)) (Or.inr (w53 hw)) (by decide) (t := (.object "java/lang/String")) (t' := .boolean) (by decide) (by decide))))
  have f21 : Exa Z h18 a1 "com/example/tuplet/tuplet/Commands$Option" := (f17.wr W18)
  obtain ⟨T22, h22, X22, e22, W22, st22⟩ := putF X18 hx hZ hown (host := "") (Or.inl (w54 hw)) Via.refl e18 f20 f21 (Or.inr ⟨(w55 hw), rfl, hnm⟩) (w33 hw) (ty := (.object "java/lang/String")) (by decide) (ref_narrow _ hv5) (ref_fits _ hv5) (g := (mkF m 34 #[rv a1, .val v0, .val v1, .val v2, .val v3, iv 0, .val v5] [v5, (.ref a1)])) rfl rfl (hb hby d1_34)
  have N22 := Fr.snoc X22 N18 g_a1
  have f23 : Fld Z h22 a1 "com/example/tuplet/tuplet/Commands$Option" "byDefault" "Ljava/lang/String;" v5 := f20.same W22
  refine go_st (fun t k => st22 t k) ?_
  show Go _ _ _ _ (T22.setTop (mkF m 37 #[rv a1, .val v0, .val v1, .val v2, .val v3, iv 0, .val v5] []))
  have f24 : Exa Z h22 a1 "com/example/tuplet/tuplet/Commands$Option" := (f21.wr W22)
  have f25 : Fld Z h22 a1 "com/example/tuplet/tuplet/Commands$Option" "name" "Ljava/lang/String;" v0 := (((((f3.other W6 (Or.inr (slot_ne (Or.inr (w45 hw)) (Or.inr (w47 hw)) (by decide) (t := (.object "java/lang/String")) (t' := (.object "com/example/tuplet/tuplet/Commands$Kind")) (by decide) (by decide)))).other W10 (Or.inr (slot_ne (Or.inr (w45 hw)) (Or.inr (w49 hw)) (by decide) (t := (.object "java/lang/String")) (t' := (.object "java/lang/String")) (by decide) (by decide)))).other W14 (Or.inr (slot_ne (Or.inr (w45 hw)) (Or.inr (w51 hw)) (by decide) (t := (.object "java/lang/String")) (t' := (.object "java/lang/String")) (by decide) (by decide)))).other W18 (Or.inr (slot_ne (Or.inr (w45 hw)) (Or.inr (w53 hw)) (by decide) (t := (.object "java/lang/String")) (t' := .boolean) (by decide) (by decide)))).other W22 (Or.inr (slot_ne (Or.inr (w45 hw)) (Or.inr (w55 hw)) (by decide) (t := (.object "java/lang/String")) (t' := (.object "java/lang/String")) (by decide) (by decide))))
  have f26 : Fld Z h22 a1 "com/example/tuplet/tuplet/Commands$Option" "kind" "Lcom/example/tuplet/tuplet/Commands$Kind;" v1 := ((((f7.other W10 (Or.inr (slot_ne (Or.inr (w47 hw)) (Or.inr (w49 hw)) (by decide) (t := (.object "com/example/tuplet/tuplet/Commands$Kind")) (t' := (.object "java/lang/String")) (by decide) (by decide)))).other W14 (Or.inr (slot_ne (Or.inr (w47 hw)) (Or.inr (w51 hw)) (by decide) (t := (.object "com/example/tuplet/tuplet/Commands$Kind")) (t' := (.object "java/lang/String")) (by decide) (by decide)))).other W18 (Or.inr (slot_ne (Or.inr (w47 hw)) (Or.inr (w53 hw)) (by decide) (t := (.object "com/example/tuplet/tuplet/Commands$Kind")) (t' := .boolean) (by decide) (by decide)))).other W22 (Or.inr (slot_ne (Or.inr (w47 hw)) (Or.inr (w55 hw)) (by decide) (t := (.object "com/example/tuplet/tuplet/Commands$Kind")) (t' := (.object "java/lang/String")) (by decide) (by decide))))
  have f27 : Fld Z h22 a1 "com/example/tuplet/tuplet/Commands$Option" "label" "Ljava/lang/String;" v2 := (((f11.other W14 (Or.inr (slot_ne (Or.inr (w49 hw)) (Or.inr (w51 hw)) (by decide) (t := (.object "java/lang/String")) (t' := (.object "java/lang/String")) (by decide) (by decide)))).other W18 (Or.inr (slot_ne (Or.inr (w49 hw)) (Or.inr (w53 hw)) (by decide) (t := (.object "java/lang/String")) (t' := .boolean) (by decide) (by decide)))).other W22 (Or.inr (slot_ne (Or.inr (w49 hw)) (Or.inr (w55 hw)) (by decide) (t := (.object "java/lang/String")) (t' := (.object "java/lang/String")) (by decide) (by decide))))
  have f28 : Fld Z h22 a1 "com/example/tuplet/tuplet/Commands$Option" "help" "Ljava/lang/String;" v3 := ((f15.other W18 (Or.inr (slot_ne (Or.inr (w51 hw)) (Or.inr (w53 hw)) (by decide) (t := (.object "java/lang/String")) (t' := .boolean) (by decide) (by decide)))).other W22 (Or.inr (slot_ne (Or.inr (w51 hw)) (Or.inr (w55 hw)) (by decide) (t := (.object "java/lang/String")) (t' := (.object "java/lang/String")) (by decide) (by decide))))
  have f29 : Fld Z h22 a1 "com/example/tuplet/tuplet/Commands$Option" "required" "Z" (.int 0) := (f19.other W22 (Or.inr (slot_ne (Or.inr (w53 hw)) (Or.inr (w55 hw)) (by decide) (t := .boolean) (t' := (.object "java/lang/String")) (by decide) (by decide))))
  have ke30 : Keep h0 h2 [a1] := (Keep.wr (Keep.refl h0 [a1]) W2 (Or.inl (List.mem_of_getElem? (i := 0) rfl)))
  have ke31 : Keep h0 h6 [a1] := (Keep.wr ke30 W6 (Or.inl (List.mem_of_getElem? (i := 0) rfl)))
  have ke32 : Keep h0 h10 [a1] := (Keep.wr ke31 W10 (Or.inl (List.mem_of_getElem? (i := 0) rfl)))
  have ke33 : Keep h0 h14 [a1] := (Keep.wr ke32 W14 (Or.inl (List.mem_of_getElem? (i := 0) rfl)))
  have ke34 : Keep h0 h18 [a1] := (Keep.wr ke33 W18 (Or.inl (List.mem_of_getElem? (i := 0) rfl)))
  have ke35 : Keep h0 h22 [a1] := (Keep.wr ke34 W22 (Or.inl (List.mem_of_getElem? (i := 0) rfl)))
  obtain ⟨fs, hr, hrun, hended, hW, hsame⟩ := X22.leave (v := none) (fun _ => rfl)
  refine ⟨_, _, ?_, hrun, hended, _, _, rfl, ?_, ⟨_, rfl⟩, hW, hsame.mono (by decide) (by decide)⟩
  · exact X22.returnOut hx Bd.returns (hb hby d1_37) hr
  · show Q_ctor0 _ _ _ _ _ _ _ _ _ _ T22.heap _
    rw [e22]
    exact ⟨rfl, N22, ke35, f24, f25, f26, f27, f28, f29, f23⟩
def Q_ctor1 (Z : State) (a1 : Addr) (v0 : Value) (v1 : Value) (v2 : Value) (v3 : Value) (v5 : Value) (h0 : Heap) (n0 : Nat) (vR : Option Value) (h : Heap) (L : List Loc) : Prop := vR = none ∧ Fr n0 L ∧ Keep h0 h [a1] ∧ (Exa Z h a1 "com/example/tuplet/tuplet/Commands$Option") ∧ (Fld Z h a1 "com/example/tuplet/tuplet/Commands$Option" "name" "Ljava/lang/String;" v0) ∧ (Fld Z h a1 "com/example/tuplet/tuplet/Commands$Option" "kind" "Lcom/example/tuplet/tuplet/Commands$Kind;" v1) ∧ (Fld Z h a1 "com/example/tuplet/tuplet/Commands$Option" "label" "Ljava/lang/String;" v2) ∧ (Fld Z h a1 "com/example/tuplet/tuplet/Commands$Option" "help" "Ljava/lang/String;" v3) ∧ (Fld Z h a1 "com/example/tuplet/tuplet/Commands$Option" "required" "Z" (.int 1)) ∧ (Fld Z h a1 "com/example/tuplet/tuplet/Commands$Option" "byDefault" "Ljava/lang/String;" v5)
theorem ef_ctor1 (m : MethodId) (x0 : Addr) (x1 : Value) (hx1 : x1.isRef = true) (x2 : Value) (hx2 : x2.isRef = true) (x3 : Value) (hx3 : x3.isRef = true) (x4 : Value) (hx4 : x4.isRef = true) (x5 : Int32) (x6 : Value) (hx6 : x6.isRef = true) : entryFrame m #[(.ref x0), x1, x2, x3, x4, (.int x5), x6] 7 = mkF m 0 #[.val (.ref x0), .val x1, .val x2, .val x3, .val x4, .val (.int x5), .val x6] [] := by rcases ref_cases hx1 with rfl | ⟨y1, rfl⟩ <;> rcases ref_cases hx2 with rfl | ⟨y2, rfl⟩ <;> rcases ref_cases hx3 with rfl | ⟨y3, rfl⟩ <;> rcases ref_cases hx4 with rfl | ⟨y4, rfl⟩ <;> rcases ref_cases hx6 with rfl | ⟨y6, rfl⟩ <;> simp [entryFrame, mkF, argsToLocals, Value.category]
set_option maxRecDepth 65536 in
set_option maxHeartbeats 40000000 in
theorem rm_ctor1 (l : Launch) (Z : State) (a0 : Array Value) (hw : ∀ d ∈ tables_1, d.before a0 Z = true) (ws : List Jvm.Cond) (a1 : Addr) (v0 : Value) (v1 : Value) (v2 : Value) (v3 : Value) (v5 : Value) (h0 : Heap) (n0 : Nat) (Z0 : n0 ≤ h0.size) (H0 : Exa Z h0 a1 "com/example/tuplet/tuplet/Commands$Option") (H1 : Fld Z h0 a1 "com/example/tuplet/tuplet/Commands$Option" "name" "Ljava/lang/String;" .null) (H2 : Fld Z h0 a1 "com/example/tuplet/tuplet/Commands$Option" "kind" "Lcom/example/tuplet/tuplet/Commands$Kind;" .null) (H3 : Fld Z h0 a1 "com/example/tuplet/tuplet/Commands$Option" "label" "Ljava/lang/String;" .null) (H4 : Fld Z h0 a1 "com/example/tuplet/tuplet/Commands$Option" "help" "Ljava/lang/String;" .null) (H5 : Fld Z h0 a1 "com/example/tuplet/tuplet/Commands$Option" "required" "Z" (.int 0)) (H6 : Fld Z h0 a1 "com/example/tuplet/tuplet/Commands$Option" "byDefault" "Ljava/lang/String;" .null) (g_a1 : n0 ≤ a1) (hv0 : v0.isRef = true) (hv1 : v1.isRef = true) (hv2 : v2.isRef = true) (hv3 : v3.isRef = true) (hv5 : v5.isRef = true) :
    MetFree l (⟨"com/example/tuplet/tuplet/Commands$Option", "<init>", "(Ljava/lang/String;Lcom/example/tuplet/tuplet/Commands$Kind;Ljava/lang/String;Ljava/lang/String;ZLjava/lang/String;)V"⟩ : MethodName) (head1 (Jvm.Cond.code (⟨"com/example/tuplet/tuplet/Commands$Option", "<init>", "(Ljava/lang/String;Lcom/example/tuplet/tuplet/Commands$Kind;Ljava/lang/String;Ljava/lang/String;ZLjava/lang/String;)V"⟩ : MethodName) prog_6_method_1_code 7 none :: ws) ({ frames := 2, cells := 0, slots := 0, locals := 24 } : Room)) (fun a U => a = #[(.ref a1), v0, v1, v2, v3, (.int 1), v5] ∧ Z.Warmed39 U.vm ∧ U.heap = h0) (fun _ _ _ _ _ => True) (fun _ U o U' => ∃ v L, o = .returned v ∧ Q_ctor1 Z a1 v0 v1 v2 v3 v5 h0 n0 v U'.heap L ∧ FrameEnd U o U' L ({ frames := 2, cells := 0, slots := 0, locals := 24 } : Room).cells ({ frames := 2, cells := 0, slots := 0, locals := 24 } : Room).slots) := by
  refine MetFree.of_bodySF (plainFor_of_name pn_com_example_tuplet_tuplet_Commands_Option) hisR ?_
  intro p e s m args below meth c s₁ Bd hml0 hP hK
  obtain ⟨rfl, hZ, hh⟩ := hP
  have hx := Bd.exec
  have hby := Bd.bytes
  have hml : c.maxLocals = 7 := hml0
  have hown : s.vm.findClass "com/example/tuplet/tuplet/Commands$Option" = some m.cls := findClass_of_methodNamed Bd.named
  have hnm := (name_of_methodNamed Bd.named Bd.method).1
  have X0 : Stand p l e ({ frames := 2, cells := 0, slots := 0, locals := 24 } : Room) s m #[(.ref a1), v0, v1, v2, v3, (.int 1), v5] below meth c s₁ [] 0 0 := Stand.of_body Bd
  have e0 : s₁.heap = h0 := by rw [← hh, Bd.state]; rfl
  have N0 := Fr.nil n0
  refine go_st (fun t k => castTop (ef_ctor1 m a1 v0 hv0 v1 hv1 v2 hv2 v3 hv3 (1 : Int32) v5 hv5) k) ?_
  show Go _ _ _ _ (s₁.setTop (mkF m 0 #[rv a1, .val v0, .val v1, .val v2, .val v3, iv 1, .val v5] []))
  refine go_st (fun t k => XS.aloadN X0.here hx rfl (hb hby d1_0) rfl rfl k) ?_
  show Go _ _ _ _ (s₁.setTop (mkF m 1 #[rv a1, .val v0, .val v1, .val v2, .val v3, iv 1, .val v5] [(.ref a1)]))
  obtain ⟨_, _, ⟨T1, L1, kk1, nn1⟩, -, X1, ⟨Lc1, hQ1, lq1, yq1, zq1⟩, st1⟩ := X0.specialBack hx (y := (⟨"java/lang/Record", "<init>", "()V"⟩ : MethodName)) rfl hown (mvT hZ (w38 hw)) (mvT hZ (w39 hw)) (mvT hZ (w42 hw)) (by decide) (backOf (W := 0) (rm_rec l Z a0 hw [] a1 h0 n0 (Nat.le_trans Z0 (Nat.le_refl _)) ) hZ (w42 hw) (w41 hw) (by decide) (by decide)) (g := (mkF m 1 #[rv a1, .val v0, .val v1, .val v2, .val v3, iv 1, .val v5] [(.ref a1)])) rfl (by rw [hml]; rfl) (Steps.refl _) (a := a1) (argsL := []) (rest := []) (lenOf pd_0 rfl) rfl (by show 2 * 0 + _ ≤ _; exact Nat.le_of_eq rfl) (hb hby d1_1) (fun _ _ => ⟨rfl, e0, (by decide : 0 + 0 ≤ _), (by decide : 0 + 0 ≤ _)⟩)
  dsimp only [Pt.U, Pt.locs, Pt.cells, Pt.slots] at X1 lq1 yq1 zq1 st1 hQ1
  subst lq1 yq1 zq1
  obtain ⟨h1, e1⟩ : ∃ z, T1.heap = z := ⟨_, rfl⟩
  rw [e1] at hQ1
  obtain ⟨rfl, N1q, he1⟩ := hQ1
  have N1 := Fr.app N0 N1q
  rw [he1] at e1
  refine go_tr st1 ?_
  show Go _ _ _ _ (T1.setTop (mkF m 4 #[rv a1, .val v0, .val v1, .val v2, .val v3, iv 1, .val v5] []))
  refine go_st (fun t k => XS.aloadN X1.here hx rfl (hb hby d1_4) rfl rfl k) ?_
  show Go _ _ _ _ (T1.setTop (mkF m 5 #[rv a1, .val v0, .val v1, .val v2, .val v3, iv 1, .val v5] [(.ref a1)]))
  refine go_st (fun t k => XS.aloadN X1.here hx rfl (hb hby d1_5) rfl hv0 k) ?_
  show Go _ _ _ _ (T1.setTop (mkF m 6 #[rv a1, .val v0, .val v1, .val v2, .val v3, iv 1, .val v5] [v0, (.ref a1)]))
  obtain ⟨T2, h2, X2, e2, W2, st2⟩ := putF X1 hx hZ hown (host := "") (Or.inl (w44 hw)) Via.refl e1 H1 H0 (Or.inr ⟨(w45 hw), rfl, hnm⟩) (w33 hw) (ty := (.object "java/lang/String")) (by decide) (ref_narrow _ hv0) (ref_fits _ hv0) (g := (mkF m 6 #[rv a1, .val v0, .val v1, .val v2, .val v3, iv 1, .val v5] [v0, (.ref a1)])) rfl rfl (hb hby d1_6)
  have N2 := Fr.snoc X2 N1 g_a1
  have f3 : Fld Z h2 a1 "com/example/tuplet/tuplet/Commands$Option" "name" "Ljava/lang/String;" v0 := H1.same W2
  refine go_st (fun t k => st2 t k) ?_
  show Go _ _ _ _ (T2.setTop (mkF m 9 #[rv a1, .val v0, .val v1, .val v2, .val v3, iv 1, .val v5] []))
  refine go_st (fun t k => XS.aloadN X2.here hx rfl (hb hby d1_9) rfl rfl k) ?_
  show Go _ _ _ _ (T2.setTop (mkF m 10 #[rv a1, .val v0, .val v1, .val v2, .val v3, iv 1, .val v5] [(.ref a1)]))
  refine go_st (fun t k => XS.aloadN X2.here hx rfl (hb hby d1_10) rfl hv1 k) ?_
  show Go _ _ _ _ (T2.setTop (mkF m 11 #[rv a1, .val v0, .val v1, .val v2, .val v3, iv 1, .val v5] [v1, (.ref a1)]))
  have f4 : Fld Z h2 a1 "com/example/tuplet/tuplet/Commands$Option" "kind" "Lcom/example/tuplet/tuplet/Commands$Kind;" .null := (H2.other W2 (Or.inr (slot_ne (Or.inr (w47 hw)) (Or.inr (w45 hw)) (by decide) (t := (.object "com/example/tuplet/tuplet/Commands$Kind")) (t' := (.object "java/lang/String")) (by decide) (by decide))))
  have f5 : Exa Z h2 a1 "com/example/tuplet/tuplet/Commands$Option" := (H0.wr W2)
  obtain ⟨T6, h6, X6, e6, W6, st6⟩ := putF X2 hx hZ hown (host := "") (Or.inl (w46 hw)) Via.refl e2 f4 f5 (Or.inr ⟨(w47 hw), rfl, hnm⟩) (w33 hw) (ty := (.object "com/example/tuplet/tuplet/Commands$Kind")) (by decide) (ref_narrow _ hv1) (ref_fits _ hv1) (g := (mkF m 11 #[rv a1, .val v0, .val v1, .val v2, .val v3, iv 1, .val v5] [v1, (.ref a1)])) rfl rfl (hb hby d1_11)
  have N6 := Fr.snoc X6 N2 g_a1
  have f7 : Fld Z h6 a1 "com/example/tuplet/tuplet/Commands$Option" "kind" "Lcom/example/tuplet/tuplet/Commands$Kind;" v1 := f4.same W6
  refine go_st (fun t k => st6 t k) ?_
  show Go _ _ _ _ (T6.setTop (mkF m 14 #[rv a1, .val v0, .val v1, .val v2, .val v3, iv 1, .val v5] []))
  refine go_st (fun t k => XS.aloadN X6.here hx rfl (hb hby d1_14) rfl rfl k) ?_
  show Go _ _ _ _ (T6.setTop (mkF m 15 #[rv a1, .val v0, .val v1, .val v2, .val v3, iv 1, .val v5] [(.ref a1)]))
  refine go_st (fun t k => XS.aloadN X6.here hx rfl (hb hby d1_15) rfl hv2 k) ?_
  show Go _ _ _ _ (T6.setTop (mkF m 16 #[rv a1, .val v0, .val v1, .val v2, .val v3, iv 1, .val v5] [v2, (.ref a1)]))
  have f8 : Fld Z h6 a1 "com/example/tuplet/tuplet/Commands$Option" "label" "Ljava/lang/String;" .null := ((H3.other W2 (Or.inr (slot_ne (Or.inr (w49 hw)) (Or.inr (w45 hw)) (by decide) (t := (.object "java/lang/String")) (t' := (.object "java/lang/String")) (by decide) (by decide)))).other W6 (Or.inr (slot_ne (Or.inr (w49 hw)) (Or.inr (w47 hw)) (by decide) (t := (.object "java/lang/String")) (t' := (.object "com/example/tuplet/tuplet/Commands$Kind")) (by decide) (by decide))))
  have f9 : Exa Z h6 a1 "com/example/tuplet/tuplet/Commands$Option" := (f5.wr W6)
  obtain ⟨T10, h10, X10, e10, W10, st10⟩ := putF X6 hx hZ hown (host := "") (Or.inl (w48 hw)) Via.refl e6 f8 f9 (Or.inr ⟨(w49 hw), rfl, hnm⟩) (w33 hw) (ty := (.object "java/lang/String")) (by decide) (ref_narrow _ hv2) (ref_fits _ hv2) (g := (mkF m 16 #[rv a1, .val v0, .val v1, .val v2, .val v3, iv 1, .val v5] [v2, (.ref a1)])) rfl rfl (hb hby d1_16)
  have N10 := Fr.snoc X10 N6 g_a1
  have f11 : Fld Z h10 a1 "com/example/tuplet/tuplet/Commands$Option" "label" "Ljava/lang/String;" v2 := f8.same W10
  refine go_st (fun t k => st10 t k) ?_
  show Go _ _ _ _ (T10.setTop (mkF m 19 #[rv a1, .val v0, .val v1, .val v2, .val v3, iv 1, .val v5] []))
  refine go_st (fun t k => XS.aloadN X10.here hx rfl (hb hby d1_19) rfl rfl k) ?_
  show Go _ _ _ _ (T10.setTop (mkF m 20 #[rv a1, .val v0, .val v1, .val v2, .val v3, iv 1, .val v5] [(.ref a1)]))
  refine go_st (fun t k => XS.aload X10.here hx rfl (hb hby d1_20) rfl hv3 k) ?_
  show Go _ _ _ _ (T10.setTop (mkF m 22 #[rv a1, .val v0, .val v1, .val v2, .val v3, iv 1, .val v5] [v3, (.ref a1)]))
  have f12 : Fld Z h10 a1 "com/example/tuplet/tuplet/Commands$Option" "help" "Ljava/lang/String;" .null := (((H4.other W2 (Or.inr (slot_ne (Or.inr (w51 hw)) (Or.inr (w45 hw)) (by decide) (t := (.object "java/lang/String")) (t' := (.object "java/lang/String")) (by decide) (by decide)))).other W6 (Or.inr (slot_ne (Or.inr (w51 hw)) (Or.inr (w47 hw)) (by decide) (t := (.object "java/lang/String")) (t' := (.object "com/example/tuplet/tuplet/Commands$Kind")) (by decide) (by decide)))).other W10 (Or.inr (slot_ne (Or.inr (w51 hw)) (Or.inr (w49 hw)) (by decide) (t := (.object "java/lang/String")) (t' := (.object "java/lang/String")) (by decide) (by decide))))
  have f13 : Exa Z h10 a1 "com/example/tuplet/tuplet/Commands$Option" := (f9.wr W10)
  obtain ⟨T14, h14, X14, e14, W14, st14⟩ := putF X10 hx hZ hown (host := "") (Or.inl (w50 hw)) Via.refl e10 f12 f13 (Or.inr ⟨(w51 hw), rfl, hnm⟩) (w33 hw) (ty := (.object "java/lang/String")) (by decide) (ref_narrow _ hv3) (ref_fits _ hv3) (g := (mkF m 22 #[rv a1, .val v0, .val v1, .val v2, .val v3, iv 1, .val v5] [v3, (.ref a1)])) rfl rfl (hb hby d1_22)
  have N14 := Fr.snoc X14 N10 g_a1
  have f15 : Fld Z h14 a1 "com/example/tuplet/tuplet/Commands$Option" "help" "Ljava/lang/String;" v3 := f12.same W14
  refine go_st (fun t k => st14 t k) ?_
  show Go _ _ _ _ (T14.setTop (mkF m 25 #[rv a1, .val v0, .val v1, .val v2, .val v3, iv 1, .val v5] []))
  refine go_st (fun t k => XS.aloadN X14.here hx rfl (hb hby d1_25) rfl rfl k) ?_
  show Go _ _ _ _ (T14.setTop (mkF m 26 #[rv a1, .val v0, .val v1, .val v2, .val v3, iv 1, .val v5] [(.ref a1)]))
  refine go_st (fun t k => XS.iload X14.here hx rfl (hb hby d1_26) rfl k) ?_
  show Go _ _ _ _ (T14.setTop (mkF m 28 #[rv a1, .val v0, .val v1, .val v2, .val v3, iv 1, .val v5] [(.int 1), (.ref a1)]))
  have f16 : Fld Z h14 a1 "com/example/tuplet/tuplet/Commands$Option" "required" "Z" (.int 0) := ((((H5.other W2 (Or.inr (slot_ne (Or.inr (w53 hw)) (Or.inr (w45 hw)) (by decide) (t := .boolean) (t' := (.object "java/lang/String")) (by decide) (by decide)))).other W6 (Or.inr (slot_ne (Or.inr (w53 hw)) (Or.inr (w47 hw)) (by decide) (t := .boolean) (t' := (.object "com/example/tuplet/tuplet/Commands$Kind")) (by decide) (by decide)))).other W10 (Or.inr (slot_ne (Or.inr (w53 hw)) (Or.inr (w49 hw)) (by decide) (t := .boolean) (t' := (.object "java/lang/String")) (by decide) (by decide)))).other W14 (Or.inr (slot_ne (Or.inr (w53 hw)) (Or.inr (w51 hw)) (by decide) (t := .boolean) (t' := (.object "java/lang/String")) (by decide) (by decide))))
  have f17 : Exa Z h14 a1 "com/example/tuplet/tuplet/Commands$Option" := (f13.wr W14)
  obtain ⟨T18, h18, X18, e18, W18, st18⟩ := putFN X14 hx hZ hown (w52 hw) Via.refl e14 f16 f17 (Or.inr ⟨(w53 hw), rfl, hnm⟩) (w33 hw) (ty := .boolean) (v' := (.int 1)) (by decide) rfl rfl (g := (mkF m 28 #[rv a1, .val v0, .val v1, .val v2, .val v3, iv 1, .val v5] [(.int 1), (.ref a1)])) rfl rfl (hb hby d1_28)
  have N18 := Fr.snoc X18 N14 g_a1
  have f19 : Fld Z h18 a1 "com/example/tuplet/tuplet/Commands$Option" "required" "Z" (.int 1) := f16.same W18
  refine go_st (fun t k => st18 t k) ?_
  show Go _ _ _ _ (T18.setTop (mkF m 31 #[rv a1, .val v0, .val v1, .val v2, .val v3, iv 1, .val v5] []))
  refine go_st (fun t k => XS.aloadN X18.here hx rfl (hb hby d1_31) rfl rfl k) ?_
  show Go _ _ _ _ (T18.setTop (mkF m 32 #[rv a1, .val v0, .val v1, .val v2, .val v3, iv 1, .val v5] [(.ref a1)]))
  refine go_st (fun t k => XS.aload X18.here hx rfl (hb hby d1_32) rfl hv5 k) ?_
  show Go _ _ _ _ (T18.setTop (mkF m 34 #[rv a1, .val v0, .val v1, .val v2, .val v3, iv 1, .val v5] [v5, (.ref a1)]))
  have f20 : Fld Z h18 a1 "com/example/tuplet/tuplet/Commands$Option" "byDefault" "Ljava/lang/String;" .null := (((((H6.other W2 (Or.inr (slot_ne (Or.inr (w55 hw)) (Or.inr (w45 hw)) (by decide) (t := (.object "java/lang/String")) (t' := (.object "java/lang/String")) (by decide) (by decide)))).other W6 (Or.inr (slot_ne (Or.inr (w55 hw)) (Or.inr (w47 hw)) (by decide) (t := (.object "java/lang/String")) (t' := (.object "com/example/tuplet/tuplet/Commands$Kind")) (by decide) (by decide)))).other W10 (Or.inr (slot_ne (Or.inr (w55 hw)) (Or.inr (w49 hw)) (by decide) (t := (.object "java/lang/String")) (t' := (.object "java/lang/String")) (by decide) (by decide)))).other W14 (Or.inr (slot_ne (Or.inr (w55 hw)) (Or.inr (w51 hw)) (by decide) (t := (.object "java/lang/String")) (t' := (.object "java/lang/String")) (by decide) (by decide)))).other W18 (Or.inr (slot_ne (Or.inr (w55 hw)) (Or.inr (w53 hw)) (by decide) (t := (.object "java/lang/String")) (t' := .boolean) (by decide) (by decide))))
  have f21 : Exa Z h18 a1 "com/example/tuplet/tuplet/Commands$Option" := (f17.wr W18)
  obtain ⟨T22, h22, X22, e22, W22, st22⟩ := putF X18 hx hZ hown (host := "") (Or.inl (w54 hw)) Via.refl e18 f20 f21 (Or.inr ⟨(w55 hw), rfl, hnm⟩) (w33 hw) (ty := (.object "java/lang/String")) (by decide) (ref_narrow _ hv5) (ref_fits _ hv5) (g := (mkF m 34 #[rv a1, .val v0, .val v1, .val v2, .val v3, iv 1, .val v5] [v5, (.ref a1)])) rfl rfl (hb hby d1_34)
  have N22 := Fr.snoc X22 N18 g_a1
  have f23 : Fld Z h22 a1 "com/example/tuplet/tuplet/Commands$Option" "byDefault" "Ljava/lang/String;" v5 := f20.same W22
  refine go_st (fun t k => st22 t k) ?_
  show Go _ _ _ _ (T22.setTop (mkF m 37 #[rv a1, .val v0, .val v1, .val v2, .val v3, iv 1, .val v5] []))
  have f24 : Exa Z h22 a1 "com/example/tuplet/tuplet/Commands$Option" := (f21.wr W22)
  have f25 : Fld Z h22 a1 "com/example/tuplet/tuplet/Commands$Option" "name" "Ljava/lang/String;" v0 := (((((f3.other W6 (Or.inr (slot_ne (Or.inr (w45 hw)) (Or.inr (w47 hw)) (by decide) (t := (.object "java/lang/String")) (t' := (.object "com/example/tuplet/tuplet/Commands$Kind")) (by decide) (by decide)))).other W10 (Or.inr (slot_ne (Or.inr (w45 hw)) (Or.inr (w49 hw)) (by decide) (t := (.object "java/lang/String")) (t' := (.object "java/lang/String")) (by decide) (by decide)))).other W14 (Or.inr (slot_ne (Or.inr (w45 hw)) (Or.inr (w51 hw)) (by decide) (t := (.object "java/lang/String")) (t' := (.object "java/lang/String")) (by decide) (by decide)))).other W18 (Or.inr (slot_ne (Or.inr (w45 hw)) (Or.inr (w53 hw)) (by decide) (t := (.object "java/lang/String")) (t' := .boolean) (by decide) (by decide)))).other W22 (Or.inr (slot_ne (Or.inr (w45 hw)) (Or.inr (w55 hw)) (by decide) (t := (.object "java/lang/String")) (t' := (.object "java/lang/String")) (by decide) (by decide))))
  have f26 : Fld Z h22 a1 "com/example/tuplet/tuplet/Commands$Option" "kind" "Lcom/example/tuplet/tuplet/Commands$Kind;" v1 := ((((f7.other W10 (Or.inr (slot_ne (Or.inr (w47 hw)) (Or.inr (w49 hw)) (by decide) (t := (.object "com/example/tuplet/tuplet/Commands$Kind")) (t' := (.object "java/lang/String")) (by decide) (by decide)))).other W14 (Or.inr (slot_ne (Or.inr (w47 hw)) (Or.inr (w51 hw)) (by decide) (t := (.object "com/example/tuplet/tuplet/Commands$Kind")) (t' := (.object "java/lang/String")) (by decide) (by decide)))).other W18 (Or.inr (slot_ne (Or.inr (w47 hw)) (Or.inr (w53 hw)) (by decide) (t := (.object "com/example/tuplet/tuplet/Commands$Kind")) (t' := .boolean) (by decide) (by decide)))).other W22 (Or.inr (slot_ne (Or.inr (w47 hw)) (Or.inr (w55 hw)) (by decide) (t := (.object "com/example/tuplet/tuplet/Commands$Kind")) (t' := (.object "java/lang/String")) (by decide) (by decide))))
  have f27 : Fld Z h22 a1 "com/example/tuplet/tuplet/Commands$Option" "label" "Ljava/lang/String;" v2 := (((f11.other W14 (Or.inr (slot_ne (Or.inr (w49 hw)) (Or.inr (w51 hw)) (by decide) (t := (.object "java/lang/String")) (t' := (.object "java/lang/String")) (by decide) (by decide)))).other W18 (Or.inr (slot_ne (Or.inr (w49 hw)) (Or.inr (w53 hw)) (by decide) (t := (.object "java/lang/String")) (t' := .boolean) (by decide) (by decide)))).other W22 (Or.inr (slot_ne (Or.inr (w49 hw)) (Or.inr (w55 hw)) (by decide) (t := (.object "java/lang/String")) (t' := (.object "java/lang/String")) (by decide) (by decide))))
  have f28 : Fld Z h22 a1 "com/example/tuplet/tuplet/Commands$Option" "help" "Ljava/lang/String;" v3 := ((f15.other W18 (Or.inr (slot_ne (Or.inr (w51 hw)) (Or.inr (w53 hw)) (by decide) (t := (.object "java/lang/String")) (t' := .boolean) (by decide) (by decide)))).other W22 (Or.inr (slot_ne (Or.inr (w51 hw)) (Or.inr (w55 hw)) (by decide) (t := (.object "java/lang/String")) (t' := (.object "java/lang/String")) (by decide) (by decide))))
  have f29 : Fld Z h22 a1 "com/example/tuplet/tuplet/Commands$Option" "required" "Z" (.int 1) := (f19.other W22 (Or.inr (slot_ne (Or.inr (w53 hw)) (Or.inr (w55 hw)) (by decide) (t := .boolean) (t' := (.object "java/lang/String")) (by decide) (by decide))))
  have ke30 : Keep h0 h2 [a1] := (Keep.wr (Keep.refl h0 [a1]) W2 (Or.inl (List.mem_of_getElem? (i := 0) rfl)))
  have ke31 : Keep h0 h6 [a1] := (Keep.wr ke30 W6 (Or.inl (List.mem_of_getElem? (i := 0) rfl)))
  have ke32 : Keep h0 h10 [a1] := (Keep.wr ke31 W10 (Or.inl (List.mem_of_getElem? (i := 0) rfl)))
  have ke33 : Keep h0 h14 [a1] := (Keep.wr ke32 W14 (Or.inl (List.mem_of_getElem? (i := 0) rfl)))
  have ke34 : Keep h0 h18 [a1] := (Keep.wr ke33 W18 (Or.inl (List.mem_of_getElem? (i := 0) rfl)))
  have ke35 : Keep h0 h22 [a1] := (Keep.wr ke34 W22 (Or.inl (List.mem_of_getElem? (i := 0) rfl)))
  obtain ⟨fs, hr, hrun, hended, hW, hsame⟩ := X22.leave (v := none) (fun _ => rfl)
  refine ⟨_, _, ?_, hrun, hended, _, _, rfl, ?_, ⟨_, rfl⟩, hW, hsame.mono (by decide) (by decide)⟩
  · exact X22.returnOut hx Bd.returns (hb hby d1_37) hr
  · show Q_ctor1 _ _ _ _ _ _ _ _ _ _ T22.heap _
    rw [e22]
    exact ⟨rfl, N22, ke35, f24, f25, f26, f27, f28, f29, f23⟩
def Q_eqsame (Z : State) (a1 : Addr) (h0 : Heap) (n0 : Nat) (vR : Option Value) (h : Heap) (L : List Loc) : Prop := vR = some (.int 1) ∧ Fr n0 L ∧ h = h0
theorem ef_eqsame (m : MethodId) (x0 : Addr) (x1 : Addr) : entryFrame m #[(.ref x0), (.ref x1)] 3 = mkF m 0 #[.val (.ref x0), .val (.ref x1), .unset] [] := by first | (simp [entryFrame, mkF, argsToLocals, Value.category]; done) | rfl
set_option maxRecDepth 65536 in
set_option maxHeartbeats 40000000 in
theorem rm_eqsame (l : Launch) (Z : State) (a0 : Array Value) (hw : ∀ d ∈ tables_1, d.before a0 Z = true) (ws : List Jvm.Cond) (a1 : Addr) (h0 : Heap) (n0 : Nat) (Z0 : n0 ≤ h0.size)  :
    MetFree l (⟨"java/lang/String", "equals", "(Ljava/lang/Object;)Z"⟩ : MethodName) (head1 (Jvm.Cond.code (⟨"java/lang/String", "equals", "(Ljava/lang/Object;)Z"⟩ : MethodName) jdk_42_method_66_code 3 (some .boolean) :: ws) ({ frames := 0, cells := 0, slots := 0, locals := 0 } : Room)) (fun a U => a = #[(.ref a1), (.ref a1)] ∧ Z.Warmed39 U.vm ∧ U.heap = h0) (fun _ _ _ _ _ => True) (fun _ U o U' => ∃ v L, o = .returned v ∧ Q_eqsame Z a1 h0 n0 v U'.heap L ∧ FrameEnd U o U' L ({ frames := 0, cells := 0, slots := 0, locals := 0 } : Room).cells ({ frames := 0, cells := 0, slots := 0, locals := 0 } : Room).slots) := by
  refine MetFree.of_bodySF (plainFor_of_name pn_java_lang_String) hisR ?_
  intro p e s m args below meth c s₁ Bd hml0 hP hK
  obtain ⟨rfl, hZ, hh⟩ := hP
  have hx := Bd.exec
  have hby := Bd.bytes
  have hml : c.maxLocals = 3 := hml0
  have hown : s.vm.findClass "java/lang/String" = some m.cls := findClass_of_methodNamed Bd.named
  have hnm := (name_of_methodNamed Bd.named Bd.method).1
  have X0 : Stand p l e ({ frames := 0, cells := 0, slots := 0, locals := 0 } : Room) s m #[(.ref a1), (.ref a1)] below meth c s₁ [] 0 0 := Stand.of_body Bd
  have e0 : s₁.heap = h0 := by rw [← hh, Bd.state]; rfl
  have N0 := Fr.nil n0
  refine go_st (fun t k => castTop (ef_eqsame m a1 a1) k) ?_
  show Go _ _ _ _ (s₁.setTop (mkF m 0 #[rv a1, rv a1, .unset] []))
  refine go_st (fun t k => XS.aloadN X0.here hx rfl (hb hby d2_0) rfl rfl k) ?_
  show Go _ _ _ _ (s₁.setTop (mkF m 1 #[rv a1, rv a1, .unset] [(.ref a1)]))
  refine go_st (fun t k => XS.aloadN X0.here hx rfl (hb hby d2_1) rfl rfl k) ?_
  show Go _ _ _ _ (s₁.setTop (mkF m 2 #[rv a1, rv a1, .unset] [(.ref a1), (.ref a1)]))
  refine go_st (fun t k => Jvm.RoadKit.acmp (g := (mkF m 2 #[rv a1, rv a1, .unset] [(.ref a1), (.ref a1)])) X0 hx rfl rfl rfl (pc0 := 2) (pc' := 5) (same := true) rfl (hb hby d2_2) rfl (decide_eq_true rfl) (by decide) (by decide) k) ?_
  show Go _ _ _ _ (s₁.setTop (mkF m 5 #[rv a1, rv a1, .unset] []))
  refine go_st (fun t k => XS.iconst X0.here hx rfl (hb hby d2_5) k) ?_
  show Go _ _ _ _ (s₁.setTop (mkF m 6 #[rv a1, rv a1, .unset] [(.int 1)]))
  obtain ⟨fs, hr, hrun, hended, hW, hsame⟩ := X0.leave (v := some (.int 1)) (fun h => by rw [Bd.returns] at h; cases h)
  refine ⟨_, _, ?_, hrun, hended, _, _, rfl, ?_, ⟨_, rfl⟩, hW, hsame.mono (by decide) (by decide)⟩
  · exact retN X0 hx (t := .boolean) Bd.returns (by simp) (hb hby d2_6) hr
  · show Q_eqsame _ _ _ _ _ s₁.heap _
    rw [e0]
    exact ⟨rfl, N0, rfl⟩
def Q_kindOf (Z : State) (pk : Int32) (g0 : Addr) (g1 : Addr) (g2 : Addr) (g3 : Addr) (g4 : Addr) (h0 : Heap) (n0 : Nat) (vR : Option Value) (h : Heap) (L : List Loc) : Prop := ∃ (g : Addr), vR = some (.ref g) ∧ Fr n0 L ∧ h = h0
theorem ef_kindOf (m : MethodId) (x0 : Int32) : entryFrame m #[(.int x0)] 1 = mkF m 0 #[.val (.int x0)] [] := by first | (simp [entryFrame, mkF, argsToLocals, Value.category]; done) | rfl
set_option maxRecDepth 65536 in
set_option maxHeartbeats 40000000 in
theorem rm_kindOf (l : Launch) (Z : State) (a0 : Array Value) (hw : ∀ d ∈ tables_1, d.before a0 Z = true) (ws : List Jvm.Cond) (pk : Int32) (g0 : Addr) (g1 : Addr) (g2 : Addr) (g3 : Addr) (g4 : Addr) (h0 : Heap) (n0 : Nat) (Z0 : n0 ≤ h0.size) (GS0 : Sta Z Z.heap "com/example/tuplet/tuplet/Commands$Kind" "FLAG" "Lcom/example/tuplet/tuplet/Commands$Kind;" (.ref g0)) (GS1 : Sta Z Z.heap "com/example/tuplet/tuplet/Commands$Kind" "TEXT" "Lcom/example/tuplet/tuplet/Commands$Kind;" (.ref g1)) (GS2 : Sta Z Z.heap "com/example/tuplet/tuplet/Commands$Kind" "INTEGER" "Lcom/example/tuplet/tuplet/Commands$Kind;" (.ref g2)) (GS3 : Sta Z Z.heap "com/example/tuplet/tuplet/Commands$Kind" "PATH" "Lcom/example/tuplet/tuplet/Commands$Kind;" (.ref g3)) (GS4 : Sta Z Z.heap "com/example/tuplet/tuplet/Commands$Kind" "LIST" "Lcom/example/tuplet/tuplet/Commands$Kind;" (.ref g4)) (O0 : Old Z n0 h0) :
    MetFree l (⟨"com/example/tuplet/tuplet/OptionAsRequiredPinLaw", "kindOf", "(I)Lcom/example/tuplet/tuplet/Commands$Kind;"⟩ : MethodName) (head1 (Jvm.Cond.code (⟨"com/example/tuplet/tuplet/OptionAsRequiredPinLaw", "kindOf", "(I)Lcom/example/tuplet/tuplet/Commands$Kind;"⟩ : MethodName) method_3_code 1 (some (.object "com/example/tuplet/tuplet/Commands$Kind")) :: ws) ({ frames := 0, cells := 0, slots := 0, locals := 0 } : Room)) (fun a U => a = #[(.int pk)] ∧ Z.Warmed39 U.vm ∧ U.heap = h0) (fun _ _ _ _ _ => True) (fun _ U o U' => ∃ v L, o = .returned v ∧ Q_kindOf Z pk g0 g1 g2 g3 g4 h0 n0 v U'.heap L ∧ FrameEnd U o U' L ({ frames := 0, cells := 0, slots := 0, locals := 0 } : Room).cells ({ frames := 0, cells := 0, slots := 0, locals := 0 } : Room).slots) := by
  refine MetFree.of_bodySF (plainFor_of_name pn_com_example_tuplet_tuplet_OptionAsRequiredPinLaw) hisR ?_
  intro p e s m args below meth c s₁ Bd hml0 hP hK
  obtain ⟨rfl, hZ, hh⟩ := hP
  have hx := Bd.exec
  have hby := Bd.bytes
  have hml : c.maxLocals = 1 := hml0
  have hown : s.vm.findClass "com/example/tuplet/tuplet/OptionAsRequiredPinLaw" = some m.cls := findClass_of_methodNamed Bd.named
  have hnm := (name_of_methodNamed Bd.named Bd.method).1
  have X0 : Stand p l e ({ frames := 0, cells := 0, slots := 0, locals := 0 } : Room) s m #[(.int pk)] below meth c s₁ [] 0 0 := Stand.of_body Bd
  have e0 : s₁.heap = h0 := by rw [← hh, Bd.state]; rfl
  have N0 := Fr.nil n0
  refine go_st (fun t k => castTop (ef_kindOf m pk) k) ?_
  show Go _ _ _ _ (s₁.setTop (mkF m 0 #[iv pk] []))
  refine go_st (fun t k => XS.iloadN X0.here hx rfl (hb hby d3_0) rfl k) ?_
  show Go _ _ _ _ (s₁.setTop (mkF m 1 #[iv pk] [(.int pk)]))
  by_cases hc1 : pk = (0 : Int32)
  · skip
    refine go_st (fun t k => XS.ifNo X0.here hx rfl (hb hby d3_1) rfl ((if0 _ _).trans (teq (hc1 : pk = (0 : Int32))).2) k) ?_
    show Go _ _ _ _ (s₁.setTop (mkF m 4 #[iv pk] []))
    obtain ⟨T2, X2, e2, st2⟩ := getS2 X0 hx hZ hown (host := "") (Or.inl (w4 hw)) Via.refl e0 (Sta.ext O0.2 GS0) (g := (mkF m 4 #[iv pk] [])) rfl (hb hby d3_4)
    refine go_st (fun t k => st2 t k) ?_
    show Go _ _ _ _ (T2.setTop (mkF m 7 #[iv pk] [(.ref g0)]))
    obtain ⟨fs, hr, hrun, hended, hW, hsame⟩ := X2.leave (v := some (.ref g0)) (fun h => by rw [Bd.returns] at h; cases h)
    refine ⟨_, _, ?_, hrun, hended, _, _, rfl, ?_, ⟨_, rfl⟩, hW, hsame.mono (by decide) (by decide)⟩
    · exact retOut X2 hx Bd.returns rfl (Or.inr (Or.inr (Or.inr (Or.inr ⟨rfl, rfl, rfl⟩)))) (hb hby d3_7) hr
    · show Q_kindOf _ _ _ _ _ _ _ _ _ _ T2.heap _
      rw [e2]
      exact ⟨g0, rfl, N0, rfl⟩
  · skip
    refine go_st (fun t k => XS.ifYes X0.here hx rfl (pc0 := 1) (pc' := 8) rfl (hb hby d3_1) rfl ((if0 _ _).trans (feq (hc1 : ¬ (pk = (0 : Int32)))).2) (by decide) (by decide) k) ?_
    show Go _ _ _ _ (s₁.setTop (mkF m 8 #[iv pk] []))
    refine go_st (fun t k => XS.iloadN X0.here hx rfl (hb hby d3_8) rfl k) ?_
    show Go _ _ _ _ (s₁.setTop (mkF m 9 #[iv pk] [(.int pk)]))
    refine go_st (fun t k => XS.iconst X0.here hx rfl (hb hby d3_9) k) ?_
    show Go _ _ _ _ (s₁.setTop (mkF m 10 #[iv pk] [(.int 1), (.int pk)]))
    by_cases hc3 : pk = (1 : Int32)
    · skip
      refine go_st (fun t k => XS.icmpNo X0.here hx rfl (hb hby d3_10) rfl (teq (hc3 : pk = (1 : Int32))).2 k) ?_
      show Go _ _ _ _ (s₁.setTop (mkF m 13 #[iv pk] []))
      obtain ⟨T4, X4, e4, st4⟩ := getS2 X0 hx hZ hown (host := "") (Or.inl (w115 hw)) Via.refl e0 (Sta.ext O0.2 GS1) (g := (mkF m 13 #[iv pk] [])) rfl (hb hby d3_13)
      refine go_st (fun t k => st4 t k) ?_
      show Go _ _ _ _ (T4.setTop (mkF m 16 #[iv pk] [(.ref g1)]))
      obtain ⟨fs, hr, hrun, hended, hW, hsame⟩ := X4.leave (v := some (.ref g1)) (fun h => by rw [Bd.returns] at h; cases h)
      refine ⟨_, _, ?_, hrun, hended, _, _, rfl, ?_, ⟨_, rfl⟩, hW, hsame.mono (by decide) (by decide)⟩
      · exact retOut X4 hx Bd.returns rfl (Or.inr (Or.inr (Or.inr (Or.inr ⟨rfl, rfl, rfl⟩)))) (hb hby d3_16) hr
      · show Q_kindOf _ _ _ _ _ _ _ _ _ _ T4.heap _
        rw [e4]
        exact ⟨g1, rfl, N0, rfl⟩
    · skip
      refine go_st (fun t k => XS.icmpYes X0.here hx rfl (pc0 := 10) (pc' := 17) rfl (hb hby d3_10) rfl (feq (hc3 : ¬ (pk = (1 : Int32)))).2 (by decide) (by decide) k) ?_
      show Go _ _ _ _ (s₁.setTop (mkF m 17 #[iv pk] []))
      refine go_st (fun t k => XS.iloadN X0.here hx rfl (hb hby d3_17) rfl k) ?_
      show Go _ _ _ _ (s₁.setTop (mkF m 18 #[iv pk] [(.int pk)]))
      refine go_st (fun t k => XS.iconst X0.here hx rfl (hb hby d3_18) k) ?_
      show Go _ _ _ _ (s₁.setTop (mkF m 19 #[iv pk] [(.int 2), (.int pk)]))
      by_cases hc5 : pk = (2 : Int32)
      · skip
        refine go_st (fun t k => XS.icmpNo X0.here hx rfl (hb hby d3_19) rfl (teq (hc5 : pk = (2 : Int32))).2 k) ?_
        show Go _ _ _ _ (s₁.setTop (mkF m 22 #[iv pk] []))
        obtain ⟨T6, X6, e6, st6⟩ := getS2 X0 hx hZ hown (host := "") (Or.inl (w113 hw)) Via.refl e0 (Sta.ext O0.2 GS2) (g := (mkF m 22 #[iv pk] [])) rfl (hb hby d3_22)
        refine go_st (fun t k => st6 t k) ?_
        show Go _ _ _ _ (T6.setTop (mkF m 25 #[iv pk] [(.ref g2)]))
        obtain ⟨fs, hr, hrun, hended, hW, hsame⟩ := X6.leave (v := some (.ref g2)) (fun h => by rw [Bd.returns] at h; cases h)
        refine ⟨_, _, ?_, hrun, hended, _, _, rfl, ?_, ⟨_, rfl⟩, hW, hsame.mono (by decide) (by decide)⟩
        · exact retOut X6 hx Bd.returns rfl (Or.inr (Or.inr (Or.inr (Or.inr ⟨rfl, rfl, rfl⟩)))) (hb hby d3_25) hr
        · show Q_kindOf _ _ _ _ _ _ _ _ _ _ T6.heap _
          rw [e6]
          exact ⟨g2, rfl, N0, rfl⟩
      · skip
        refine go_st (fun t k => XS.icmpYes X0.here hx rfl (pc0 := 19) (pc' := 26) rfl (hb hby d3_19) rfl (feq (hc5 : ¬ (pk = (2 : Int32)))).2 (by decide) (by decide) k) ?_
        show Go _ _ _ _ (s₁.setTop (mkF m 26 #[iv pk] []))
        refine go_st (fun t k => XS.iloadN X0.here hx rfl (hb hby d3_26) rfl k) ?_
        show Go _ _ _ _ (s₁.setTop (mkF m 27 #[iv pk] [(.int pk)]))
        refine go_st (fun t k => XS.iconst X0.here hx rfl (hb hby d3_27) k) ?_
        show Go _ _ _ _ (s₁.setTop (mkF m 28 #[iv pk] [(.int 3), (.int pk)]))
        by_cases hc7 : pk = (3 : Int32)
        · skip
          refine go_st (fun t k => XS.icmpNo X0.here hx rfl (hb hby d3_28) rfl (teq (hc7 : pk = (3 : Int32))).2 k) ?_
          show Go _ _ _ _ (s₁.setTop (mkF m 31 #[iv pk] []))
          obtain ⟨T8, X8, e8, st8⟩ := getS2 X0 hx hZ hown (host := "") (Or.inl (w98 hw)) Via.refl e0 (Sta.ext O0.2 GS3) (g := (mkF m 31 #[iv pk] [])) rfl (hb hby d3_31)
          refine go_st (fun t k => st8 t k) ?_
          show Go _ _ _ _ (T8.setTop (mkF m 34 #[iv pk] [(.ref g3)]))
          obtain ⟨fs, hr, hrun, hended, hW, hsame⟩ := X8.leave (v := some (.ref g3)) (fun h => by rw [Bd.returns] at h; cases h)
          refine ⟨_, _, ?_, hrun, hended, _, _, rfl, ?_, ⟨_, rfl⟩, hW, hsame.mono (by decide) (by decide)⟩
          · exact retOut X8 hx Bd.returns rfl (Or.inr (Or.inr (Or.inr (Or.inr ⟨rfl, rfl, rfl⟩)))) (hb hby d3_34) hr
          · show Q_kindOf _ _ _ _ _ _ _ _ _ _ T8.heap _
            rw [e8]
            exact ⟨g3, rfl, N0, rfl⟩
        · skip
          refine go_st (fun t k => XS.icmpYes X0.here hx rfl (pc0 := 28) (pc' := 35) rfl (hb hby d3_28) rfl (feq (hc7 : ¬ (pk = (3 : Int32)))).2 (by decide) (by decide) k) ?_
          show Go _ _ _ _ (s₁.setTop (mkF m 35 #[iv pk] []))
          obtain ⟨T9, X9, e9, st9⟩ := getS2 X0 hx hZ hown (host := "") (Or.inl (w111 hw)) Via.refl e0 (Sta.ext O0.2 GS4) (g := (mkF m 35 #[iv pk] [])) rfl (hb hby d3_35)
          refine go_st (fun t k => st9 t k) ?_
          show Go _ _ _ _ (T9.setTop (mkF m 38 #[iv pk] [(.ref g4)]))
          obtain ⟨fs, hr, hrun, hended, hW, hsame⟩ := X9.leave (v := some (.ref g4)) (fun h => by rw [Bd.returns] at h; cases h)
          refine ⟨_, _, ?_, hrun, hended, _, _, rfl, ?_, ⟨_, rfl⟩, hW, hsame.mono (by decide) (by decide)⟩
          · exact retOut X9 hx Bd.returns rfl (Or.inr (Or.inr (Or.inr (Or.inr ⟨rfl, rfl, rfl⟩)))) (hb hby d3_38) hr
          · show Q_kindOf _ _ _ _ _ _ _ _ _ _ T9.heap _
            rw [e9]
            exact ⟨g4, rfl, N0, rfl⟩
/-- a String under construction (its value is still null) isn't a booked one -/
theorem safe_null {Z : State} {EL : List (String × Nat)} {vm : Vm} {h : Heap} {x : Addr} {a0 : Array Value} {kI : Nat} (hal : Z.vm.Alike vm) (wi : (Jvm.Cond.instantiable "java/lang/String" kI).before a0 Z = true) (E : Exa Z h x "java/lang/String") (F : Fld Z h x "java/lang/String" "value" "[B" .null) : Safe Z EL vm h x := by
  rintro ⟨p, -, u, a, -, q, -, ⟨cS, ⟨⟨s1, -, -, ⟨cv, kv, iv, s4, -⟩, -, -, -, s8, -, s10, s11, -⟩, -⟩, -⟩, rfl | rfl⟩
  · obtain ⟨cell, cf, k, i, f, h1, h2, -, -, -, -, h7⟩ := F
    cases (show h[q.sa]? = some q.sC from s1).symm.trans h1
    obtain ⟨k', z4⟩ := ff_back (Z := Z) (U := Wst Z vm h) hal s4
    have z5 : Z.fieldFound? "java/lang/String" "value" "[B" = some (cv, k', iv, q.fSV) := z4
    rw [z5] at h2; cases h2
    rw [s8] at h7; cases h7
  · obtain ⟨cell, k, h1, h2, h3, -, -⟩ := E
    cases (show h[q.sd]? = some q.SA from s10).symm.trans h1
    obtain ⟨c2, k2, i1, i2, i3, -⟩ := Cond.instantiable_spec wi
    cases h2.symm.trans i1
    obtain ⟨-, k9, hk9, comp, hkind⟩ := s11
    obtain ⟨k', hk', ek⟩ := hal.2.2 _ _ i2
    cases (show vm.classes[q.SA.cls]? = some k9 from hk9).symm.trans hk'
    rw [ek] at hkind
    exact absurd (i3.symm.trans hkind) (by simp)

def Q_strE4 (Z : State) (a1 : Addr) (ac : Addr) (kc : ClassId) (h0 : Heap) (n0 : Nat) (vR : Option Value) (h : Heap) (L : List Loc) : Prop := ∃ (t : Addr) (kb : ClassId), vR = none ∧ Fr n0 L ∧ Keep h0 h [a1] ∧ (Exa Z h a1 "java/lang/String") ∧ (Fld Z h a1 "java/lang/String" "value" "[B" (.ref t)) ∧ (Fld Z h a1 "java/lang/String" "coder" "B" (.int 0)) ∧ (Arv Z h t kb .byte (0 : Int32) [] (.int 0))
theorem ef_strE4 (m : MethodId) (x0 : Addr) (x1 : Addr) (x2 : Int32) (x3 : Int32) : entryFrame m #[(.ref x0), (.ref x1), (.int x2), (.int x3), .null] 6 = mkF m 0 #[.val (.ref x0), .val (.ref x1), .val (.int x2), .val (.int x3), .val .null, .unset] [] := by first | (simp [entryFrame, mkF, argsToLocals, Value.category]; done) | rfl
set_option maxRecDepth 65536 in
set_option maxHeartbeats 40000000 in
theorem rm_strE4 (l : Launch) (Z : State) (a0 : Array Value) (hw : ∀ d ∈ tables_1, d.before a0 Z = true) (ws : List Jvm.Cond) (a1 : Addr) (ac : Addr) (kc : ClassId) (h0 : Heap) (n0 : Nat) (Z0 : n0 ≤ h0.size) (H0 : Exa Z h0 a1 "java/lang/String") (H1 : Fld Z h0 a1 "java/lang/String" "value" "[B" .null) (H2 : Fld Z h0 a1 "java/lang/String" "coder" "B" (.int 0)) (H3 : Arv Z h0 ac kc .char (0 : Int32) [] (.int (0 : Int32))) (g_a1 : n0 ≤ a1) (ne_a1_ac : a1 ≠ ac) :
    MetFree l (⟨"java/lang/String", "<init>", "([CIILjava/lang/Void;)V"⟩ : MethodName) (head1 (Jvm.Cond.code (⟨"java/lang/String", "<init>", "([CIILjava/lang/Void;)V"⟩ : MethodName) jdk_42_method_149_code 6 none :: ws) ({ frames := 1, cells := 4, slots := 8, locals := 12 } : Room)) (fun a U => a = #[(.ref a1), (.ref ac), (.int 0), (.int 0), .null] ∧ Z.Warmed39 U.vm ∧ U.heap = h0 ∧ CHv Z consts_1 U.vm h0) (fun _ _ _ _ _ => True) (fun _ U o U' => ∃ v L, o = .returned v ∧ Q_strE4 Z a1 ac kc h0 n0 v U'.heap L ∧ CHr Z consts_1 U.vm U.heap U'.vm U'.heap ∧ ReturnedEndW U o U' L ({ frames := 1, cells := 4, slots := 8, locals := 12 } : Room).cells ({ frames := 1, cells := 4, slots := 8, locals := 12 } : Room).slots) := by
  refine MetFree.of_bodySF (plainFor_of_name pn_java_lang_String) hisR ?_
  intro p e s m args below meth c s₁ Bd hml0 hP hK
  obtain ⟨rfl, hZs, hh, HC0⟩ := hP
  have hx := Bd.exec
  have hby := Bd.bytes
  have hml : c.maxLocals = 6 := hml0
  have hZ : Z.Warmed39 (s.setVm s.vm).vm := hZs
  have hown : (s.setVm s.vm).vm.findClass "java/lang/String" = some m.cls := findClass_of_methodNamed Bd.named
  have hnm := (name_of_methodNamed Bd.named Bd.method).1
  have X0 : Stand p l e ({ frames := 1, cells := 4, slots := 8, locals := 12 } : Room) (s.setVm s.vm) m #[(.ref a1), (.ref ac), (.int 0), (.int 0), .null] below meth c s₁ [] 0 0 := Stand.of_body Bd
  have e0 : s₁.heap = h0 := by rw [← hh, Bd.state]; rfl
  have N0 := Fr.nil n0
  have hS0 : s.Since s.vm s.heap.size := (State.WarmedH.refl s).since _
  have hk0 : s.heap.size ≤ h0.size := Nat.le_of_eq (congrArg Array.size hh)
  have C0 : CHr Z consts_1 s.vm h0 s.vm h0 := CHr.refl HC0
  refine go_st (fun t k => castTop (ef_strE4 m a1 ac (0 : Int32) (0 : Int32)) k) ?_
  show Go _ _ _ _ (s₁.setTop (mkF m 0 #[rv a1, rv ac, iv 0, iv 0, .val .null, .unset] []))
  have sfa : Safe Z consts_1 s.vm h0 a1 := safe_null hZ.alike (w11 hw) H0 H1
  refine go_st (fun t k => XS.aloadN X0.here hx rfl (hb hby d4_0) rfl rfl k) ?_
  show Go _ _ _ _ (s₁.setTop (mkF m 1 #[rv a1, rv ac, iv 0, iv 0, .val .null, .unset] [(.ref a1)]))
  obtain ⟨T1, X1, e1, st1⟩ := initO X0 hx hZ hown (w21 hw) (w22 hw) (w23 hw) e0 (g := (mkF m 1 #[rv a1, rv ac, iv 0, iv 0, .val .null, .unset] [(.ref a1)])) rfl (by rw [hml]; rfl) rfl (hb hby d4_1) (by decide) (W := 0) (by show 2 * 0 + _ ≤ _; exact Nat.le_of_eq rfl) (by decide)
  refine go_st (fun t k => st1 t k) ?_
  show Go _ _ _ _ (T1.setTop (mkF m 4 #[rv a1, rv ac, iv 0, iv 0, .val .null, .unset] []))
  refine go_st (fun t k => XS.iloadN X1.here hx rfl (hb hby d4_4) rfl k) ?_
  show Go _ _ _ _ (T1.setTop (mkF m 5 #[rv a1, rv ac, iv 0, iv 0, .val .null, .unset] [(.int 0)]))
  refine go_st (fun t k => XS.ifNo X1.here hx rfl (hb hby d4_5) rfl ((if0 _ _).trans (teq ((by decide) : (0 : Int32) = (0 : Int32))).2) k) ?_
  show Go _ _ _ _ (T1.setTop (mkF m 8 #[rv a1, rv ac, iv 0, iv 0, .val .null, .unset] []))
  refine go_st (fun t k => XS.aloadN X1.here hx rfl (hb hby d4_8) rfl rfl k) ?_
  show Go _ _ _ _ (T1.setTop (mkF m 9 #[rv a1, rv ac, iv 0, iv 0, .val .null, .unset] [(.ref a1)]))
  obtain ⟨li2, T2, h2, kk2, t2, kb2, X2, e2, E2, hS2, hk2, hZ2, hown2, Es2, Cs2, Vs2, As2, lla2, llt2, hC2, -, hne2, st2⟩ := ldcCH (vm0 := s.vm) X1 hx hZ hown (w24 hw) (str_atoms hw) e1 hS0 (Nat.le_trans hk0 (Nat.le_refl _)) (hEL hw) (List.mem_of_getElem? (i := 0) rfl) C0.1 (vs := []) (z := (0 : Int32)) (by decide) (by decide) (by decide) (g := (mkF m 9 #[rv a1, rv ac, iv 0, iv 0, .val .null, .unset] [(.ref a1)])) rfl (hb hby d4_9) (n := 0) (by decide) (by decide) (by decide) (by decide)
  have C3 : CHr Z consts_1 s.vm h0 T2.vm h2 := CHr.trans C0 hC2
  have sf4 : Safe Z consts_1 T2.vm h2 a1 := (CHr.safe hC2 H0.lt sfa)
  refine go_st (fun t k => st2 t k) ?_
  show Go _ _ _ _ (T2.setTop (mkF m 11 #[rv a1, rv ac, iv 0, iv 0, .val .null, .unset] [(.ref li2), (.ref a1)]))
  obtain ⟨T5, X5, e5, st5⟩ := getF X2 hx hZ2 hown2 (host := "") (Or.inl (w30 hw)) Via.refl e2 Vs2 (g := (mkF m 11 #[rv a1, rv ac, iv 0, iv 0, .val .null, .unset] [(.ref li2), (.ref a1)])) rfl rfl (hb hby d4_11)
  refine go_st (fun t k => st5 t k) ?_
  show Go _ _ _ _ (T5.setTop (mkF m 14 #[rv a1, rv ac, iv 0, iv 0, .val .null, .unset] [(.ref t2), (.ref a1)]))
  have f6 : Fld Z h2 a1 "java/lang/String" "value" "[B" .null := (H1.ext E2)
  have f7 : Exa Z h2 a1 "java/lang/String" := (H0.ext E2)
  obtain ⟨T8, h8, X8, e8, W8, st8⟩ := putF X5 hx hZ2 hown2 (host := "") (Or.inl (w30 hw)) Via.refl e5 f6 f7 (Or.inr ⟨(w26 hw), rfl, hnm⟩) (w11 hw) (ty := (.array .byte)) (by decide) rfl rfl (g := (mkF m 14 #[rv a1, rv ac, iv 0, iv 0, .val .null, .unset] [(.ref t2), (.ref a1)])) rfl rfl (hb hby d4_14)
  have N8 := Fr.snoc X8 N0 g_a1
  have C9 : CHr Z consts_1 s.vm h0 T2.vm h8 := CHr.trans C3 (CHr.wr W8 sf4 C3.1)
  have sf10 : Safe Z consts_1 T2.vm h8 a1 := (Safe.wr W8 sf4 C3.1 sf4)
  have f11 : Fld Z h8 a1 "java/lang/String" "value" "[B" (.ref t2) := f6.same W8
  refine go_st (fun t k => st8 t k) ?_
  show Go _ _ _ _ (T8.setTop (mkF m 17 #[rv a1, rv ac, iv 0, iv 0, .val .null, .unset] []))
  refine go_st (fun t k => XS.aloadN X8.here hx rfl (hb hby d4_17) rfl rfl k) ?_
  show Go _ _ _ _ (T8.setTop (mkF m 18 #[rv a1, rv ac, iv 0, iv 0, .val .null, .unset] [(.ref a1)]))
  obtain ⟨li12, T12, h12, kk12, t12, kb12, X12, e12, E12, hS12, hk12, hZ12, hown12, Es12, Cs12, Vs12, As12, lla12, llt12, hC12, -, hne12, st12⟩ := ldcCH (vm0 := T2.vm) X8 hx hZ2 hown2 (w24 hw) (str_atoms hw) e8 hS2 (Nat.le_trans hk2 (Nat.le_of_eq W8.size.symm)) (hEL hw) (List.mem_of_getElem? (i := 0) rfl) C9.1 (vs := []) (z := (0 : Int32)) (by decide) (by decide) (by decide) (g := (mkF m 18 #[rv a1, rv ac, iv 0, iv 0, .val .null, .unset] [(.ref a1)])) rfl (hb hby d4_18) (n := 0) (by decide) (by decide) (by decide) (by decide)
  have f13 : Exa Z h8 a1 "java/lang/String" := (f7.wr W8)
  have C14 : CHr Z consts_1 s.vm h0 T12.vm h12 := CHr.trans C9 hC12
  have sf15 : Safe Z consts_1 T12.vm h12 a1 := (CHr.safe hC12 f13.lt sf10)
  refine go_st (fun t k => st12 t k) ?_
  show Go _ _ _ _ (T12.setTop (mkF m 20 #[rv a1, rv ac, iv 0, iv 0, .val .null, .unset] [(.ref li12), (.ref a1)]))
  obtain ⟨T16, X16, e16, st16⟩ := getF X12 hx hZ12 hown12 (host := "") (Or.inl (w31 hw)) Via.refl e12 Cs12 (g := (mkF m 20 #[rv a1, rv ac, iv 0, iv 0, .val .null, .unset] [(.ref li12), (.ref a1)])) rfl rfl (hb hby d4_20)
  refine go_st (fun t k => st16 t k) ?_
  show Go _ _ _ _ (T16.setTop (mkF m 23 #[rv a1, rv ac, iv 0, iv 0, .val .null, .unset] [(.int 0), (.ref a1)]))
  have f17 : Fld Z h12 a1 "java/lang/String" "coder" "B" (.int 0) := (((H2.ext E2).other W8 (Or.inr (slot_ne (Or.inr (w27 hw)) (Or.inr (w26 hw)) (by decide) (t := .byte) (t' := (.array .byte)) (by decide) (by decide)))).ext E12)
  have f18 : Exa Z h12 a1 "java/lang/String" := (f13.ext E12)
  obtain ⟨T19, h19, X19, e19, W19, st19⟩ := putFN X16 hx hZ12 hown12 (w31 hw) Via.refl e16 f17 f18 (Or.inr ⟨(w27 hw), rfl, hnm⟩) (w11 hw) (ty := .byte) (v' := (.int 0)) (by decide) rfl rfl (g := (mkF m 23 #[rv a1, rv ac, iv 0, iv 0, .val .null, .unset] [(.int 0), (.ref a1)])) rfl rfl (hb hby d4_23)
  have N19 := Fr.snoc X19 N8 g_a1
  have C20 : CHr Z consts_1 s.vm h0 T12.vm h19 := CHr.trans C14 (CHr.wr W19 sf15 C14.1)
  have sf21 : Safe Z consts_1 T12.vm h19 a1 := (Safe.wr W19 sf15 C14.1 sf15)
  have f22 : Fld Z h19 a1 "java/lang/String" "coder" "B" (.int 0) := f17.same W19
  refine go_st (fun t k => st19 t k) ?_
  show Go _ _ _ _ (T19.setTop (mkF m 26 #[rv a1, rv ac, iv 0, iv 0, .val .null, .unset] []))
  have f23 : Exa Z h19 a1 "java/lang/String" := (f18.wr W19)
  have f24 : Fld Z h19 a1 "java/lang/String" "value" "[B" (.ref t2) := ((f11.ext E12).other W19 (Or.inr (slot_ne (Or.inr (w26 hw)) (Or.inr (w27 hw)) (by decide) (t := (.array .byte)) (t' := .byte) (by decide) (by decide))))
  have nq25 : t2 ≠ a1 := Ne.symm (Exa.neArv f7 As2 (w11 hw))
  have f26 : Arv Z h19 t2 kb2 .byte (0 : Int32) [] (.int 0) := (((As2.other W8 nq25).ext E12).other W19 nq25)
  have ke27 : Keep h0 h2 [a1] := (Keep.ext (Keep.refl h0 [a1]) E2)
  have ke28 : Keep h0 h8 [a1] := (Keep.wr ke27 W8 (Or.inl (List.mem_of_getElem? (i := 0) rfl)))
  have ke29 : Keep h0 h12 [a1] := (Keep.ext ke28 E12)
  have ke30 : Keep h0 h19 [a1] := (Keep.wr ke29 W19 (Or.inl (List.mem_of_getElem? (i := 0) rfl)))
  obtain ⟨fs, hr, hrun, hended, hR⟩ := X19.leaveW hS12 (by rw [e19]; exact (Nat.le_trans hk12 (Nat.le_of_eq W19.size.symm))) (v := none) (fun _ => rfl)
  refine ⟨_, _, ?_, hrun, hended, _, _, rfl, ?_, ?_, hR.1, hR.2.1, hR.2.2.1, hR.2.2.2.mono (by decide) (by decide)⟩
  · exact X19.returnOut hx Bd.returns (hb hby d4_26) hr
  · show Q_strE4 _ _ _ _ _ _ _ T19.heap _
    rw [e19]
    exact ⟨t2, kb2, rfl, N19, ke30, f23, f24, f22, f26⟩
  · show CHr Z consts_1 s.vm s.heap T19.vm T19.heap
    rw [hh, e19]
    exact CHr.trans C20 (CHv.at X19 hZ12 (hEL hw) C20.1)
def Q_strE1 (Z : State) (a1 : Addr) (ac : Addr) (kc : ClassId) (h0 : Heap) (n0 : Nat) (vR : Option Value) (h : Heap) (L : List Loc) : Prop := ∃ (t : Addr) (kb : ClassId), vR = none ∧ Fr n0 L ∧ Keep h0 h [a1] ∧ (Exa Z h a1 "java/lang/String") ∧ (Fld Z h a1 "java/lang/String" "value" "[B" (.ref t)) ∧ (Fld Z h a1 "java/lang/String" "coder" "B" (.int 0)) ∧ (Arv Z h t kb .byte (0 : Int32) [] (.int 0))
theorem ef_strE1 (m : MethodId) (x0 : Addr) (x1 : Addr) : entryFrame m #[(.ref x0), (.ref x1)] 2 = mkF m 0 #[.val (.ref x0), .val (.ref x1)] [] := by first | (simp [entryFrame, mkF, argsToLocals, Value.category]; done) | rfl
set_option maxRecDepth 65536 in
set_option maxHeartbeats 40000000 in
theorem rm_strE1 (l : Launch) (Z : State) (a0 : Array Value) (hw : ∀ d ∈ tables_1, d.before a0 Z = true) (ws : List Jvm.Cond) (a1 : Addr) (ac : Addr) (kc : ClassId) (h0 : Heap) (n0 : Nat) (Z0 : n0 ≤ h0.size) (H0 : Exa Z h0 a1 "java/lang/String") (H1 : Fld Z h0 a1 "java/lang/String" "value" "[B" .null) (H2 : Fld Z h0 a1 "java/lang/String" "coder" "B" (.int 0)) (H3 : Arv Z h0 ac kc .char (0 : Int32) [] (.int (0 : Int32))) (g_a1 : n0 ≤ a1) (ne_a1_ac : a1 ≠ ac) :
    MetFree l (⟨"java/lang/String", "<init>", "([C)V"⟩ : MethodName) (head1 (Jvm.Cond.code (⟨"java/lang/String", "<init>", "([C)V"⟩ : MethodName) jdk_42_method_3_code 2 none :: ws) ({ frames := 2, cells := 4, slots := 8, locals := 29 } : Room)) (fun a U => a = #[(.ref a1), (.ref ac)] ∧ Z.Warmed39 U.vm ∧ U.heap = h0 ∧ CHv Z consts_1 U.vm h0) (fun _ _ _ _ _ => True) (fun _ U o U' => ∃ v L, o = .returned v ∧ Q_strE1 Z a1 ac kc h0 n0 v U'.heap L ∧ CHr Z consts_1 U.vm U.heap U'.vm U'.heap ∧ ReturnedEndW U o U' L ({ frames := 2, cells := 4, slots := 8, locals := 29 } : Room).cells ({ frames := 2, cells := 4, slots := 8, locals := 29 } : Room).slots) := by
  refine MetFree.of_bodySF (plainFor_of_name pn_java_lang_String) hisR ?_
  intro p e s m args below meth c s₁ Bd hml0 hP hK
  obtain ⟨rfl, hZs, hh, HC0⟩ := hP
  have hx := Bd.exec
  have hby := Bd.bytes
  have hml : c.maxLocals = 2 := hml0
  have hZ : Z.Warmed39 (s.setVm s.vm).vm := hZs
  have hown : (s.setVm s.vm).vm.findClass "java/lang/String" = some m.cls := findClass_of_methodNamed Bd.named
  have hnm := (name_of_methodNamed Bd.named Bd.method).1
  have X0 : Stand p l e ({ frames := 2, cells := 4, slots := 8, locals := 29 } : Room) (s.setVm s.vm) m #[(.ref a1), (.ref ac)] below meth c s₁ [] 0 0 := Stand.of_body Bd
  have e0 : s₁.heap = h0 := by rw [← hh, Bd.state]; rfl
  have N0 := Fr.nil n0
  have hS0 : s.Since s.vm s.heap.size := (State.WarmedH.refl s).since _
  have hk0 : s.heap.size ≤ h0.size := Nat.le_of_eq (congrArg Array.size hh)
  have C0 : CHr Z consts_1 s.vm h0 s.vm h0 := CHr.refl HC0
  refine go_st (fun t k => castTop (ef_strE1 m a1 ac) k) ?_
  show Go _ _ _ _ (s₁.setTop (mkF m 0 #[rv a1, rv ac] []))
  refine go_st (fun t k => XS.aloadN X0.here hx rfl (hb hby d5_0) rfl rfl k) ?_
  show Go _ _ _ _ (s₁.setTop (mkF m 1 #[rv a1, rv ac] [(.ref a1)]))
  refine go_st (fun t k => XS.aloadN X0.here hx rfl (hb hby d5_1) rfl rfl k) ?_
  show Go _ _ _ _ (s₁.setTop (mkF m 2 #[rv a1, rv ac] [(.ref ac), (.ref a1)]))
  refine go_st (fun t k => XS.iconst X0.here hx rfl (hb hby d5_2) k) ?_
  show Go _ _ _ _ (s₁.setTop (mkF m 3 #[rv a1, rv ac] [(.int 0), (.ref ac), (.ref a1)]))
  refine go_st (fun t k => XS.aloadN X0.here hx rfl (hb hby d5_3) rfl rfl k) ?_
  show Go _ _ _ _ (s₁.setTop (mkF m 4 #[rv a1, rv ac] [(.ref ac), (.int 0), (.ref ac), (.ref a1)]))
  obtain ⟨zc1, zA1, zq1, zS1, zN1, zH1, zG1⟩ := id H3
  refine go_st (fun t k => X0.arraylength hx (by rw [e0]; exact zA1.1) (State.isArrayOf_alike hZ.alike zA1.2.1) (g := (mkF m 4 #[rv a1, rv ac] [(.ref ac), (.int 0), (.ref ac), (.ref a1)])) rfl rfl (hb hby d5_4) t k) ?_
  rw [len_of zS1 zN1]
  show Go _ _ _ _ (s₁.setTop (mkF m 5 #[rv a1, rv ac] [(.int 0), (.int 0), (.ref ac), (.ref a1)]))
  refine go_st (fun t k => XS.aconstNull X0.here hx rfl (hb hby d5_5) k) ?_
  show Go _ _ _ _ (s₁.setTop (mkF m 6 #[rv a1, rv ac] [.null, (.int 0), (.int 0), (.ref ac), (.ref a1)]))
  obtain ⟨_, _, ⟨T2, L2, kk2, nn2⟩, -, X2, hs22, hg2, ⟨Lc2, hQ2, lq2, yq2, zq2, hC2⟩, st2⟩ := X0.specialBackS hx (y := (⟨"java/lang/String", "<init>", "([CIILjava/lang/Void;)V"⟩ : MethodName)) rfl hown (mvT hZ (w17 hw)) (mvT hZ (w18 hw)) (mvT hZ (w20 hw)) (by decide) (backOfSH (vm0 := s.vm) (W := 0) (rm_strE4 l Z a0 hw [] a1 ac kc h0 n0 (Nat.le_trans Z0 (Nat.le_refl _)) H0 H1 H2 H3 g_a1 ne_a1_ac) hZ (w20 hw) (w12 hw) (by decide) (by decide) (hEL hw) C0.1) (g := (mkF m 6 #[rv a1, rv ac] [.null, (.int 0), (.int 0), (.ref ac), (.ref a1)])) rfl (by rw [hml]; rfl) (Steps.refl _) (a := a1) (argsL := [(.ref ac), (.int 0), (.int 0), .null]) (rest := []) (lenOf pd_1 rfl) rfl (by show 2 * 0 + _ ≤ _; exact Nat.le_of_eq rfl) (hb hby d5_6) (fun _ _ => ⟨rfl, e0, (by decide : 0 + 4 ≤ _), (by decide : 0 + 8 ≤ _)⟩)
  dsimp only [Pt.U, Pt.locs, Pt.cells, Pt.slots] at X2 hs22 hg2 lq2 yq2 zq2 st2 hQ2 hC2
  subst lq2 yq2 zq2
  rw [e0] at hg2
  obtain ⟨X2, hS2, hZ2, hown2⟩ := rebS (vm0 := s.vm) hS0 (Nat.le_trans hk0 (Nat.le_refl _)) X2 hs22 hg2 hZ hown
  obtain ⟨h2, e2⟩ : ∃ z, T2.heap = z := ⟨_, rfl⟩
  rw [e2] at hQ2 hg2 hC2 hS2
  obtain ⟨t_2, kb_2, rfl, N2q, K2, p2_0, p2_1, p2_2, p2_3⟩ := hQ2
  have N2 := Fr.app N0 N2q
  have C3 : CHr Z consts_1 s.vm h0 T2.vm h2 := CHr.trans C0 hC2
  refine go_tr st2 ?_
  show Go _ _ _ _ (T2.setTop (mkF m 9 #[rv a1, rv ac] []))
  have ke4 : Keep h0 h2 [a1] := (Keep.trans (Keep.refl h0 [a1]) K2 (allS (Or.inl (List.mem_of_getElem? (i := 0) rfl)) all0))
  obtain ⟨fs, hr, hrun, hended, hR⟩ := X2.leaveW hS2 (by rw [e2]; exact (Nat.le_trans (Nat.le_refl _) (Nat.le_refl _))) (v := none) (fun _ => rfl)
  refine ⟨_, _, ?_, hrun, hended, _, _, rfl, ?_, ?_, hR.1, hR.2.1, hR.2.2.1, hR.2.2.2.mono (by decide) (by decide)⟩
  · exact X2.returnOut hx Bd.returns (hb hby d5_9) hr
  · show Q_strE1 _ _ _ _ _ _ _ T2.heap _
    rw [e2]
    exact ⟨t_2, kb_2, rfl, N2, ke4, p2_0, p2_1, p2_2, p2_3⟩
  · show CHr Z consts_1 s.vm s.heap T2.vm T2.heap
    rw [hh, e2]
    exact CHr.trans C3 (CHv.at X2 hZ2 (hEL hw) C3.1)
def Q_get_name (Z : State) (a1 : Addr) (v0 : Value) (h0 : Heap) (n0 : Nat) (vR : Option Value) (h : Heap) (L : List Loc) : Prop := vR = some v0 ∧ Fr n0 L ∧ h = h0
theorem ef_get_name (m : MethodId) (x0 : Addr) : entryFrame m #[(.ref x0)] 1 = mkF m 0 #[.val (.ref x0)] [] := by first | (simp [entryFrame, mkF, argsToLocals, Value.category]; done) | rfl
set_option maxRecDepth 65536 in
set_option maxHeartbeats 40000000 in
theorem rm_get_name (l : Launch) (Z : State) (a0 : Array Value) (hw : ∀ d ∈ tables_1, d.before a0 Z = true) (ws : List Jvm.Cond) (a1 : Addr) (v0 : Value) (h0 : Heap) (n0 : Nat) (Z0 : n0 ≤ h0.size) (H0 : Fld Z h0 a1 "com/example/tuplet/tuplet/Commands$Option" "name" "Ljava/lang/String;" v0) (hv0 : v0.isRef = true) :
    MetFree l (⟨"com/example/tuplet/tuplet/Commands$Option", "name", "()Ljava/lang/String;"⟩ : MethodName) (head1 (Jvm.Cond.code (⟨"com/example/tuplet/tuplet/Commands$Option", "name", "()Ljava/lang/String;"⟩ : MethodName) prog_6_method_10_code 1 (some (.object "java/lang/String")) :: ws) ({ frames := 0, cells := 0, slots := 0, locals := 0 } : Room)) (fun a U => a = #[(.ref a1)] ∧ Z.Warmed39 U.vm ∧ U.heap = h0) (fun _ _ _ _ _ => True) (fun _ U o U' => ∃ v L, o = .returned v ∧ Q_get_name Z a1 v0 h0 n0 v U'.heap L ∧ FrameEnd U o U' L ({ frames := 0, cells := 0, slots := 0, locals := 0 } : Room).cells ({ frames := 0, cells := 0, slots := 0, locals := 0 } : Room).slots) := by
  refine MetFree.of_bodySF (plainFor_of_name pn_com_example_tuplet_tuplet_Commands_Option) hisR ?_
  intro p e s m args below meth c s₁ Bd hml0 hP hK
  obtain ⟨rfl, hZ, hh⟩ := hP
  have hx := Bd.exec
  have hby := Bd.bytes
  have hml : c.maxLocals = 1 := hml0
  have hown : s.vm.findClass "com/example/tuplet/tuplet/Commands$Option" = some m.cls := findClass_of_methodNamed Bd.named
  have hnm := (name_of_methodNamed Bd.named Bd.method).1
  have X0 : Stand p l e ({ frames := 0, cells := 0, slots := 0, locals := 0 } : Room) s m #[(.ref a1)] below meth c s₁ [] 0 0 := Stand.of_body Bd
  have e0 : s₁.heap = h0 := by rw [← hh, Bd.state]; rfl
  have N0 := Fr.nil n0
  refine go_st (fun t k => castTop (ef_get_name m a1) k) ?_
  show Go _ _ _ _ (s₁.setTop (mkF m 0 #[rv a1] []))
  refine go_st (fun t k => XS.aloadN X0.here hx rfl (hb hby d6_0) rfl rfl k) ?_
  show Go _ _ _ _ (s₁.setTop (mkF m 1 #[rv a1] [(.ref a1)]))
  obtain ⟨T1, X1, e1, st1⟩ := getF X0 hx hZ hown (host := "") (Or.inl (w44 hw)) Via.refl e0 H0 (g := (mkF m 1 #[rv a1] [(.ref a1)])) rfl rfl (hb hby d6_1)
  refine go_st (fun t k => st1 t k) ?_
  show Go _ _ _ _ (T1.setTop (mkF m 4 #[rv a1] [v0]))
  obtain ⟨fs, hr, hrun, hended, hW, hsame⟩ := X1.leave (v := some v0) (fun h => by rw [Bd.returns] at h; cases h)
  refine ⟨_, _, ?_, hrun, hended, _, _, rfl, ?_, ⟨_, rfl⟩, hW, hsame.mono (by decide) (by decide)⟩
  · exact retOut X1 hx Bd.returns (ref_narrow _ hv0) (Or.inr (Or.inr (Or.inr (Or.inr ⟨rfl, rfl, hv0⟩)))) (hb hby d6_4) hr
  · show Q_get_name _ _ _ _ _ _ T1.heap _
    rw [e1]
    exact ⟨rfl, N0, rfl⟩
def Q_get_kind (Z : State) (a1 : Addr) (v1 : Value) (h0 : Heap) (n0 : Nat) (vR : Option Value) (h : Heap) (L : List Loc) : Prop := vR = some v1 ∧ Fr n0 L ∧ h = h0
theorem ef_get_kind (m : MethodId) (x0 : Addr) : entryFrame m #[(.ref x0)] 1 = mkF m 0 #[.val (.ref x0)] [] := by first | (simp [entryFrame, mkF, argsToLocals, Value.category]; done) | rfl
set_option maxRecDepth 65536 in
set_option maxHeartbeats 40000000 in
theorem rm_get_kind (l : Launch) (Z : State) (a0 : Array Value) (hw : ∀ d ∈ tables_1, d.before a0 Z = true) (ws : List Jvm.Cond) (a1 : Addr) (v1 : Value) (h0 : Heap) (n0 : Nat) (Z0 : n0 ≤ h0.size) (H0 : Fld Z h0 a1 "com/example/tuplet/tuplet/Commands$Option" "kind" "Lcom/example/tuplet/tuplet/Commands$Kind;" v1) (hv1 : v1.isRef = true) :
    MetFree l (⟨"com/example/tuplet/tuplet/Commands$Option", "kind", "()Lcom/example/tuplet/tuplet/Commands$Kind;"⟩ : MethodName) (head1 (Jvm.Cond.code (⟨"com/example/tuplet/tuplet/Commands$Option", "kind", "()Lcom/example/tuplet/tuplet/Commands$Kind;"⟩ : MethodName) prog_6_method_11_code 1 (some (.object "com/example/tuplet/tuplet/Commands$Kind")) :: ws) ({ frames := 0, cells := 0, slots := 0, locals := 0 } : Room)) (fun a U => a = #[(.ref a1)] ∧ Z.Warmed39 U.vm ∧ U.heap = h0) (fun _ _ _ _ _ => True) (fun _ U o U' => ∃ v L, o = .returned v ∧ Q_get_kind Z a1 v1 h0 n0 v U'.heap L ∧ FrameEnd U o U' L ({ frames := 0, cells := 0, slots := 0, locals := 0 } : Room).cells ({ frames := 0, cells := 0, slots := 0, locals := 0 } : Room).slots) := by
  refine MetFree.of_bodySF (plainFor_of_name pn_com_example_tuplet_tuplet_Commands_Option) hisR ?_
  intro p e s m args below meth c s₁ Bd hml0 hP hK
  obtain ⟨rfl, hZ, hh⟩ := hP
  have hx := Bd.exec
  have hby := Bd.bytes
  have hml : c.maxLocals = 1 := hml0
  have hown : s.vm.findClass "com/example/tuplet/tuplet/Commands$Option" = some m.cls := findClass_of_methodNamed Bd.named
  have hnm := (name_of_methodNamed Bd.named Bd.method).1
  have X0 : Stand p l e ({ frames := 0, cells := 0, slots := 0, locals := 0 } : Room) s m #[(.ref a1)] below meth c s₁ [] 0 0 := Stand.of_body Bd
  have e0 : s₁.heap = h0 := by rw [← hh, Bd.state]; rfl
  have N0 := Fr.nil n0
  refine go_st (fun t k => castTop (ef_get_kind m a1) k) ?_
  show Go _ _ _ _ (s₁.setTop (mkF m 0 #[rv a1] []))
  refine go_st (fun t k => XS.aloadN X0.here hx rfl (hb hby d7_0) rfl rfl k) ?_
  show Go _ _ _ _ (s₁.setTop (mkF m 1 #[rv a1] [(.ref a1)]))
  obtain ⟨T1, X1, e1, st1⟩ := getF X0 hx hZ hown (host := "") (Or.inl (w46 hw)) Via.refl e0 H0 (g := (mkF m 1 #[rv a1] [(.ref a1)])) rfl rfl (hb hby d7_1)
  refine go_st (fun t k => st1 t k) ?_
  show Go _ _ _ _ (T1.setTop (mkF m 4 #[rv a1] [v1]))
  obtain ⟨fs, hr, hrun, hended, hW, hsame⟩ := X1.leave (v := some v1) (fun h => by rw [Bd.returns] at h; cases h)
  refine ⟨_, _, ?_, hrun, hended, _, _, rfl, ?_, ⟨_, rfl⟩, hW, hsame.mono (by decide) (by decide)⟩
  · exact retOut X1 hx Bd.returns (ref_narrow _ hv1) (Or.inr (Or.inr (Or.inr (Or.inr ⟨rfl, rfl, hv1⟩)))) (hb hby d7_4) hr
  · show Q_get_kind _ _ _ _ _ _ T1.heap _
    rw [e1]
    exact ⟨rfl, N0, rfl⟩
def Q_get_label (Z : State) (a1 : Addr) (v2 : Value) (h0 : Heap) (n0 : Nat) (vR : Option Value) (h : Heap) (L : List Loc) : Prop := vR = some v2 ∧ Fr n0 L ∧ h = h0
theorem ef_get_label (m : MethodId) (x0 : Addr) : entryFrame m #[(.ref x0)] 1 = mkF m 0 #[.val (.ref x0)] [] := by first | (simp [entryFrame, mkF, argsToLocals, Value.category]; done) | rfl
set_option maxRecDepth 65536 in
set_option maxHeartbeats 40000000 in
theorem rm_get_label (l : Launch) (Z : State) (a0 : Array Value) (hw : ∀ d ∈ tables_1, d.before a0 Z = true) (ws : List Jvm.Cond) (a1 : Addr) (v2 : Value) (h0 : Heap) (n0 : Nat) (Z0 : n0 ≤ h0.size) (H0 : Fld Z h0 a1 "com/example/tuplet/tuplet/Commands$Option" "label" "Ljava/lang/String;" v2) (hv2 : v2.isRef = true) :
    MetFree l (⟨"com/example/tuplet/tuplet/Commands$Option", "label", "()Ljava/lang/String;"⟩ : MethodName) (head1 (Jvm.Cond.code (⟨"com/example/tuplet/tuplet/Commands$Option", "label", "()Ljava/lang/String;"⟩ : MethodName) prog_6_method_12_code 1 (some (.object "java/lang/String")) :: ws) ({ frames := 0, cells := 0, slots := 0, locals := 0 } : Room)) (fun a U => a = #[(.ref a1)] ∧ Z.Warmed39 U.vm ∧ U.heap = h0) (fun _ _ _ _ _ => True) (fun _ U o U' => ∃ v L, o = .returned v ∧ Q_get_label Z a1 v2 h0 n0 v U'.heap L ∧ FrameEnd U o U' L ({ frames := 0, cells := 0, slots := 0, locals := 0 } : Room).cells ({ frames := 0, cells := 0, slots := 0, locals := 0 } : Room).slots) := by
  refine MetFree.of_bodySF (plainFor_of_name pn_com_example_tuplet_tuplet_Commands_Option) hisR ?_
  intro p e s m args below meth c s₁ Bd hml0 hP hK
  obtain ⟨rfl, hZ, hh⟩ := hP
  have hx := Bd.exec
  have hby := Bd.bytes
  have hml : c.maxLocals = 1 := hml0
  have hown : s.vm.findClass "com/example/tuplet/tuplet/Commands$Option" = some m.cls := findClass_of_methodNamed Bd.named
  have hnm := (name_of_methodNamed Bd.named Bd.method).1
  have X0 : Stand p l e ({ frames := 0, cells := 0, slots := 0, locals := 0 } : Room) s m #[(.ref a1)] below meth c s₁ [] 0 0 := Stand.of_body Bd
  have e0 : s₁.heap = h0 := by rw [← hh, Bd.state]; rfl
  have N0 := Fr.nil n0
  refine go_st (fun t k => castTop (ef_get_label m a1) k) ?_
  show Go _ _ _ _ (s₁.setTop (mkF m 0 #[rv a1] []))
  refine go_st (fun t k => XS.aloadN X0.here hx rfl (hb hby d8_0) rfl rfl k) ?_
  show Go _ _ _ _ (s₁.setTop (mkF m 1 #[rv a1] [(.ref a1)]))
  obtain ⟨T1, X1, e1, st1⟩ := getF X0 hx hZ hown (host := "") (Or.inl (w48 hw)) Via.refl e0 H0 (g := (mkF m 1 #[rv a1] [(.ref a1)])) rfl rfl (hb hby d8_1)
  refine go_st (fun t k => st1 t k) ?_
  show Go _ _ _ _ (T1.setTop (mkF m 4 #[rv a1] [v2]))
  obtain ⟨fs, hr, hrun, hended, hW, hsame⟩ := X1.leave (v := some v2) (fun h => by rw [Bd.returns] at h; cases h)
  refine ⟨_, _, ?_, hrun, hended, _, _, rfl, ?_, ⟨_, rfl⟩, hW, hsame.mono (by decide) (by decide)⟩
  · exact retOut X1 hx Bd.returns (ref_narrow _ hv2) (Or.inr (Or.inr (Or.inr (Or.inr ⟨rfl, rfl, hv2⟩)))) (hb hby d8_4) hr
  · show Q_get_label _ _ _ _ _ _ T1.heap _
    rw [e1]
    exact ⟨rfl, N0, rfl⟩
def Q_get_help (Z : State) (a1 : Addr) (v3 : Value) (h0 : Heap) (n0 : Nat) (vR : Option Value) (h : Heap) (L : List Loc) : Prop := vR = some v3 ∧ Fr n0 L ∧ h = h0
theorem ef_get_help (m : MethodId) (x0 : Addr) : entryFrame m #[(.ref x0)] 1 = mkF m 0 #[.val (.ref x0)] [] := by first | (simp [entryFrame, mkF, argsToLocals, Value.category]; done) | rfl
set_option maxRecDepth 65536 in
set_option maxHeartbeats 40000000 in
theorem rm_get_help (l : Launch) (Z : State) (a0 : Array Value) (hw : ∀ d ∈ tables_1, d.before a0 Z = true) (ws : List Jvm.Cond) (a1 : Addr) (v3 : Value) (h0 : Heap) (n0 : Nat) (Z0 : n0 ≤ h0.size) (H0 : Fld Z h0 a1 "com/example/tuplet/tuplet/Commands$Option" "help" "Ljava/lang/String;" v3) (hv3 : v3.isRef = true) :
    MetFree l (⟨"com/example/tuplet/tuplet/Commands$Option", "help", "()Ljava/lang/String;"⟩ : MethodName) (head1 (Jvm.Cond.code (⟨"com/example/tuplet/tuplet/Commands$Option", "help", "()Ljava/lang/String;"⟩ : MethodName) prog_6_method_13_code 1 (some (.object "java/lang/String")) :: ws) ({ frames := 0, cells := 0, slots := 0, locals := 0 } : Room)) (fun a U => a = #[(.ref a1)] ∧ Z.Warmed39 U.vm ∧ U.heap = h0) (fun _ _ _ _ _ => True) (fun _ U o U' => ∃ v L, o = .returned v ∧ Q_get_help Z a1 v3 h0 n0 v U'.heap L ∧ FrameEnd U o U' L ({ frames := 0, cells := 0, slots := 0, locals := 0 } : Room).cells ({ frames := 0, cells := 0, slots := 0, locals := 0 } : Room).slots) := by
  refine MetFree.of_bodySF (plainFor_of_name pn_com_example_tuplet_tuplet_Commands_Option) hisR ?_
  intro p e s m args below meth c s₁ Bd hml0 hP hK
  obtain ⟨rfl, hZ, hh⟩ := hP
  have hx := Bd.exec
  have hby := Bd.bytes
  have hml : c.maxLocals = 1 := hml0
  have hown : s.vm.findClass "com/example/tuplet/tuplet/Commands$Option" = some m.cls := findClass_of_methodNamed Bd.named
  have hnm := (name_of_methodNamed Bd.named Bd.method).1
  have X0 : Stand p l e ({ frames := 0, cells := 0, slots := 0, locals := 0 } : Room) s m #[(.ref a1)] below meth c s₁ [] 0 0 := Stand.of_body Bd
  have e0 : s₁.heap = h0 := by rw [← hh, Bd.state]; rfl
  have N0 := Fr.nil n0
  refine go_st (fun t k => castTop (ef_get_help m a1) k) ?_
  show Go _ _ _ _ (s₁.setTop (mkF m 0 #[rv a1] []))
  refine go_st (fun t k => XS.aloadN X0.here hx rfl (hb hby d9_0) rfl rfl k) ?_
  show Go _ _ _ _ (s₁.setTop (mkF m 1 #[rv a1] [(.ref a1)]))
  obtain ⟨T1, X1, e1, st1⟩ := getF X0 hx hZ hown (host := "") (Or.inl (w50 hw)) Via.refl e0 H0 (g := (mkF m 1 #[rv a1] [(.ref a1)])) rfl rfl (hb hby d9_1)
  refine go_st (fun t k => st1 t k) ?_
  show Go _ _ _ _ (T1.setTop (mkF m 4 #[rv a1] [v3]))
  obtain ⟨fs, hr, hrun, hended, hW, hsame⟩ := X1.leave (v := some v3) (fun h => by rw [Bd.returns] at h; cases h)
  refine ⟨_, _, ?_, hrun, hended, _, _, rfl, ?_, ⟨_, rfl⟩, hW, hsame.mono (by decide) (by decide)⟩
  · exact retOut X1 hx Bd.returns (ref_narrow _ hv3) (Or.inr (Or.inr (Or.inr (Or.inr ⟨rfl, rfl, hv3⟩)))) (hb hby d9_4) hr
  · show Q_get_help _ _ _ _ _ _ T1.heap _
    rw [e1]
    exact ⟨rfl, N0, rfl⟩
def Q_get_byDefault (Z : State) (a1 : Addr) (v5 : Value) (h0 : Heap) (n0 : Nat) (vR : Option Value) (h : Heap) (L : List Loc) : Prop := vR = some v5 ∧ Fr n0 L ∧ h = h0
theorem ef_get_byDefault (m : MethodId) (x0 : Addr) : entryFrame m #[(.ref x0)] 1 = mkF m 0 #[.val (.ref x0)] [] := by first | (simp [entryFrame, mkF, argsToLocals, Value.category]; done) | rfl
set_option maxRecDepth 65536 in
set_option maxHeartbeats 40000000 in
theorem rm_get_byDefault (l : Launch) (Z : State) (a0 : Array Value) (hw : ∀ d ∈ tables_1, d.before a0 Z = true) (ws : List Jvm.Cond) (a1 : Addr) (v5 : Value) (h0 : Heap) (n0 : Nat) (Z0 : n0 ≤ h0.size) (H0 : Fld Z h0 a1 "com/example/tuplet/tuplet/Commands$Option" "byDefault" "Ljava/lang/String;" v5) (hv5 : v5.isRef = true) :
    MetFree l (⟨"com/example/tuplet/tuplet/Commands$Option", "byDefault", "()Ljava/lang/String;"⟩ : MethodName) (head1 (Jvm.Cond.code (⟨"com/example/tuplet/tuplet/Commands$Option", "byDefault", "()Ljava/lang/String;"⟩ : MethodName) prog_6_method_15_code 1 (some (.object "java/lang/String")) :: ws) ({ frames := 0, cells := 0, slots := 0, locals := 0 } : Room)) (fun a U => a = #[(.ref a1)] ∧ Z.Warmed39 U.vm ∧ U.heap = h0) (fun _ _ _ _ _ => True) (fun _ U o U' => ∃ v L, o = .returned v ∧ Q_get_byDefault Z a1 v5 h0 n0 v U'.heap L ∧ FrameEnd U o U' L ({ frames := 0, cells := 0, slots := 0, locals := 0 } : Room).cells ({ frames := 0, cells := 0, slots := 0, locals := 0 } : Room).slots) := by
  refine MetFree.of_bodySF (plainFor_of_name pn_com_example_tuplet_tuplet_Commands_Option) hisR ?_
  intro p e s m args below meth c s₁ Bd hml0 hP hK
  obtain ⟨rfl, hZ, hh⟩ := hP
  have hx := Bd.exec
  have hby := Bd.bytes
  have hml : c.maxLocals = 1 := hml0
  have hown : s.vm.findClass "com/example/tuplet/tuplet/Commands$Option" = some m.cls := findClass_of_methodNamed Bd.named
  have hnm := (name_of_methodNamed Bd.named Bd.method).1
  have X0 : Stand p l e ({ frames := 0, cells := 0, slots := 0, locals := 0 } : Room) s m #[(.ref a1)] below meth c s₁ [] 0 0 := Stand.of_body Bd
  have e0 : s₁.heap = h0 := by rw [← hh, Bd.state]; rfl
  have N0 := Fr.nil n0
  refine go_st (fun t k => castTop (ef_get_byDefault m a1) k) ?_
  show Go _ _ _ _ (s₁.setTop (mkF m 0 #[rv a1] []))
  refine go_st (fun t k => XS.aloadN X0.here hx rfl (hb hby d10_0) rfl rfl k) ?_
  show Go _ _ _ _ (s₁.setTop (mkF m 1 #[rv a1] [(.ref a1)]))
  obtain ⟨T1, X1, e1, st1⟩ := getF X0 hx hZ hown (host := "") (Or.inl (w54 hw)) Via.refl e0 H0 (g := (mkF m 1 #[rv a1] [(.ref a1)])) rfl rfl (hb hby d10_1)
  refine go_st (fun t k => st1 t k) ?_
  show Go _ _ _ _ (T1.setTop (mkF m 4 #[rv a1] [v5]))
  obtain ⟨fs, hr, hrun, hended, hW, hsame⟩ := X1.leave (v := some v5) (fun h => by rw [Bd.returns] at h; cases h)
  refine ⟨_, _, ?_, hrun, hended, _, _, rfl, ?_, ⟨_, rfl⟩, hW, hsame.mono (by decide) (by decide)⟩
  · exact retOut X1 hx Bd.returns (ref_narrow _ hv5) (Or.inr (Or.inr (Or.inr (Or.inr ⟨rfl, rfl, hv5⟩)))) (hb hby d10_4) hr
  · show Q_get_byDefault _ _ _ _ _ _ T1.heap _
    rw [e1]
    exact ⟨rfl, N0, rfl⟩
def Q_get_required1 (Z : State) (a1 : Addr) (h0 : Heap) (n0 : Nat) (vR : Option Value) (h : Heap) (L : List Loc) : Prop := vR = some (.int 1) ∧ Fr n0 L ∧ h = h0
theorem ef_get_required1 (m : MethodId) (x0 : Addr) : entryFrame m #[(.ref x0)] 1 = mkF m 0 #[.val (.ref x0)] [] := by first | (simp [entryFrame, mkF, argsToLocals, Value.category]; done) | rfl
set_option maxRecDepth 65536 in
set_option maxHeartbeats 40000000 in
theorem rm_get_required1 (l : Launch) (Z : State) (a0 : Array Value) (hw : ∀ d ∈ tables_1, d.before a0 Z = true) (ws : List Jvm.Cond) (a1 : Addr) (h0 : Heap) (n0 : Nat) (Z0 : n0 ≤ h0.size) (H0 : Fld Z h0 a1 "com/example/tuplet/tuplet/Commands$Option" "required" "Z" (.int 1)) :
    MetFree l (⟨"com/example/tuplet/tuplet/Commands$Option", "required", "()Z"⟩ : MethodName) (head1 (Jvm.Cond.code (⟨"com/example/tuplet/tuplet/Commands$Option", "required", "()Z"⟩ : MethodName) prog_6_method_14_code 1 (some .boolean) :: ws) ({ frames := 0, cells := 0, slots := 0, locals := 0 } : Room)) (fun a U => a = #[(.ref a1)] ∧ Z.Warmed39 U.vm ∧ U.heap = h0) (fun _ _ _ _ _ => True) (fun _ U o U' => ∃ v L, o = .returned v ∧ Q_get_required1 Z a1 h0 n0 v U'.heap L ∧ FrameEnd U o U' L ({ frames := 0, cells := 0, slots := 0, locals := 0 } : Room).cells ({ frames := 0, cells := 0, slots := 0, locals := 0 } : Room).slots) := by
  refine MetFree.of_bodySF (plainFor_of_name pn_com_example_tuplet_tuplet_Commands_Option) hisR ?_
  intro p e s m args below meth c s₁ Bd hml0 hP hK
  obtain ⟨rfl, hZ, hh⟩ := hP
  have hx := Bd.exec
  have hby := Bd.bytes
  have hml : c.maxLocals = 1 := hml0
  have hown : s.vm.findClass "com/example/tuplet/tuplet/Commands$Option" = some m.cls := findClass_of_methodNamed Bd.named
  have hnm := (name_of_methodNamed Bd.named Bd.method).1
  have X0 : Stand p l e ({ frames := 0, cells := 0, slots := 0, locals := 0 } : Room) s m #[(.ref a1)] below meth c s₁ [] 0 0 := Stand.of_body Bd
  have e0 : s₁.heap = h0 := by rw [← hh, Bd.state]; rfl
  have N0 := Fr.nil n0
  refine go_st (fun t k => castTop (ef_get_required1 m a1) k) ?_
  show Go _ _ _ _ (s₁.setTop (mkF m 0 #[rv a1] []))
  refine go_st (fun t k => XS.aloadN X0.here hx rfl (hb hby d11_0) rfl rfl k) ?_
  show Go _ _ _ _ (s₁.setTop (mkF m 1 #[rv a1] [(.ref a1)]))
  obtain ⟨T1, X1, e1, st1⟩ := getF X0 hx hZ hown (host := "") (Or.inl (w52 hw)) Via.refl e0 H0 (g := (mkF m 1 #[rv a1] [(.ref a1)])) rfl rfl (hb hby d11_1)
  refine go_st (fun t k => st1 t k) ?_
  show Go _ _ _ _ (T1.setTop (mkF m 4 #[rv a1] [(.int 1)]))
  obtain ⟨fs, hr, hrun, hended, hW, hsame⟩ := X1.leave (v := some (.int 1)) (fun h => by rw [Bd.returns] at h; cases h)
  refine ⟨_, _, ?_, hrun, hended, _, _, rfl, ?_, ⟨_, rfl⟩, hW, hsame.mono (by decide) (by decide)⟩
  · exact retN X1 hx (t := .boolean) Bd.returns (by simp) (hb hby d11_4) hr
  · show Q_get_required1 _ _ _ _ _ T1.heap _
    rw [e1]
    exact ⟨rfl, N0, rfl⟩
def Q_asreq0 (Z : State) (a1 : Addr) (v0 : Value) (v1 : Value) (v2 : Value) (v3 : Value) (v5 : Value) (h0 : Heap) (n0 : Nat) (vR : Option Value) (h : Heap) (L : List Loc) : Prop := ∃ (b : Addr), vR = some (.ref b) ∧ Fr n0 L ∧ Keep h0 h [] ∧ n0 ≤ b ∧ h0.size ≤ b ∧ (Exa Z h b "com/example/tuplet/tuplet/Commands$Option") ∧ (Fld Z h b "com/example/tuplet/tuplet/Commands$Option" "name" "Ljava/lang/String;" v0) ∧ (Fld Z h b "com/example/tuplet/tuplet/Commands$Option" "kind" "Lcom/example/tuplet/tuplet/Commands$Kind;" v1) ∧ (Fld Z h b "com/example/tuplet/tuplet/Commands$Option" "label" "Ljava/lang/String;" v2) ∧ (Fld Z h b "com/example/tuplet/tuplet/Commands$Option" "help" "Ljava/lang/String;" v3) ∧ (Fld Z h b "com/example/tuplet/tuplet/Commands$Option" "required" "Z" (.int 1)) ∧ (Fld Z h b "com/example/tuplet/tuplet/Commands$Option" "byDefault" "Ljava/lang/String;" v5)
theorem ef_asreq0 (m : MethodId) (x0 : Addr) : entryFrame m #[(.ref x0)] 1 = mkF m 0 #[.val (.ref x0)] [] := by first | (simp [entryFrame, mkF, argsToLocals, Value.category]; done) | rfl
set_option maxRecDepth 65536 in
set_option maxHeartbeats 40000000 in
theorem rm_asreq0 (l : Launch) (Z : State) (a0 : Array Value) (hw : ∀ d ∈ tables_1, d.before a0 Z = true) (ws : List Jvm.Cond) (a1 : Addr) (v0 : Value) (v1 : Value) (v2 : Value) (v3 : Value) (v5 : Value) (h0 : Heap) (n0 : Nat) (Z0 : n0 ≤ h0.size) (H0 : Fld Z h0 a1 "com/example/tuplet/tuplet/Commands$Option" "name" "Ljava/lang/String;" v0) (H1 : Fld Z h0 a1 "com/example/tuplet/tuplet/Commands$Option" "kind" "Lcom/example/tuplet/tuplet/Commands$Kind;" v1) (H2 : Fld Z h0 a1 "com/example/tuplet/tuplet/Commands$Option" "label" "Ljava/lang/String;" v2) (H3 : Fld Z h0 a1 "com/example/tuplet/tuplet/Commands$Option" "help" "Ljava/lang/String;" v3) (H4 : Fld Z h0 a1 "com/example/tuplet/tuplet/Commands$Option" "required" "Z" (.int 0)) (H5 : Fld Z h0 a1 "com/example/tuplet/tuplet/Commands$Option" "byDefault" "Ljava/lang/String;" v5) (hv0 : v0.isRef = true) (hv1 : v1.isRef = true) (hv2 : v2.isRef = true) (hv3 : v3.isRef = true) (hv5 : v5.isRef = true) :
    MetFree l (⟨"com/example/tuplet/tuplet/Commands$Option", "asRequired", "()Lcom/example/tuplet/tuplet/Commands$Option;"⟩ : MethodName) (head1 (Jvm.Cond.code (⟨"com/example/tuplet/tuplet/Commands$Option", "asRequired", "()Lcom/example/tuplet/tuplet/Commands$Option;"⟩ : MethodName) prog_6_method_4_code 1 (some (.object "com/example/tuplet/tuplet/Commands$Option")) :: ws) ({ frames := 3, cells := 1, slots := 6, locals := 43 } : Room)) (fun a U => a = #[(.ref a1)] ∧ Z.Warmed39 U.vm ∧ U.heap = h0) (fun _ _ _ _ _ => True) (fun _ U o U' => ∃ v L, o = .returned v ∧ Q_asreq0 Z a1 v0 v1 v2 v3 v5 h0 n0 v U'.heap L ∧ FrameEnd U o U' L ({ frames := 3, cells := 1, slots := 6, locals := 43 } : Room).cells ({ frames := 3, cells := 1, slots := 6, locals := 43 } : Room).slots) := by
  refine MetFree.of_bodySF (plainFor_of_name pn_com_example_tuplet_tuplet_Commands_Option) hisR ?_
  intro p e s m args below meth c s₁ Bd hml0 hP hK
  obtain ⟨rfl, hZ, hh⟩ := hP
  have hx := Bd.exec
  have hby := Bd.bytes
  have hml : c.maxLocals = 1 := hml0
  have hown : s.vm.findClass "com/example/tuplet/tuplet/Commands$Option" = some m.cls := findClass_of_methodNamed Bd.named
  have hnm := (name_of_methodNamed Bd.named Bd.method).1
  have X0 : Stand p l e ({ frames := 3, cells := 1, slots := 6, locals := 43 } : Room) s m #[(.ref a1)] below meth c s₁ [] 0 0 := Stand.of_body Bd
  have e0 : s₁.heap = h0 := by rw [← hh, Bd.state]; rfl
  have N0 := Fr.nil n0
  refine go_st (fun t k => castTop (ef_asreq0 m a1) k) ?_
  show Go _ _ _ _ (s₁.setTop (mkF m 0 #[rv a1] []))
  obtain ⟨T1, h1, X1, e1, E1, A1, D1, -, st1⟩ := newO X0 hx hZ hown (w61 hw) (w33 hw) (w34 hw) e0 (g := (mkF m 0 #[rv a1] [])) rfl (hb hby d12_0) (by decide) (by decide)
  obtain ⟨b1, gq1⟩ : ∃ z, z = h0.size := ⟨_, rfl⟩
  rw [← gq1] at A1 D1 st1
  have f2 : Fld Z h1 b1 "com/example/tuplet/tuplet/Commands$Option" "name" "Ljava/lang/String;" .null := D1 (Or.inr (w45 hw)) (ty := (.object "java/lang/String")) (by decide)
  have f3 : Fld Z h1 b1 "com/example/tuplet/tuplet/Commands$Option" "kind" "Lcom/example/tuplet/tuplet/Commands$Kind;" .null := D1 (Or.inr (w47 hw)) (ty := (.object "com/example/tuplet/tuplet/Commands$Kind")) (by decide)
  have f4 : Fld Z h1 b1 "com/example/tuplet/tuplet/Commands$Option" "label" "Ljava/lang/String;" .null := D1 (Or.inr (w49 hw)) (ty := (.object "java/lang/String")) (by decide)
  have f5 : Fld Z h1 b1 "com/example/tuplet/tuplet/Commands$Option" "help" "Ljava/lang/String;" .null := D1 (Or.inr (w51 hw)) (ty := (.object "java/lang/String")) (by decide)
  have f6 : Fld Z h1 b1 "com/example/tuplet/tuplet/Commands$Option" "required" "Z" (.int 0) := D1 (Or.inr (w53 hw)) (ty := .boolean) (by decide)
  have f7 : Fld Z h1 b1 "com/example/tuplet/tuplet/Commands$Option" "byDefault" "Ljava/lang/String;" .null := D1 (Or.inr (w55 hw)) (ty := (.object "java/lang/String")) (by decide)
  refine go_st (fun t k => st1 t k) ?_
  show Go _ _ _ _ (T1.setTop (mkF m 3 #[rv a1] [(.ref b1)]))
  refine go_st (fun t k => XS.dup X1.here hx rfl (hb hby d12_3) rfl rfl k) ?_
  show Go _ _ _ _ (T1.setTop (mkF m 4 #[rv a1] [(.ref b1), (.ref b1)]))
  refine go_st (fun t k => XS.aloadN X1.here hx rfl (hb hby d12_4) rfl rfl k) ?_
  show Go _ _ _ _ (T1.setTop (mkF m 5 #[rv a1] [(.ref a1), (.ref b1), (.ref b1)]))
  have f8 : Fld Z h1 a1 "com/example/tuplet/tuplet/Commands$Option" "name" "Ljava/lang/String;" v0 := (H0.ext E1)
  obtain ⟨T9, X9, e9, st9⟩ := getF X1 hx hZ hown (host := "") (Or.inl (w44 hw)) Via.refl e1 f8 (g := (mkF m 5 #[rv a1] [(.ref a1), (.ref b1), (.ref b1)])) rfl rfl (hb hby d12_5)
  refine go_st (fun t k => st9 t k) ?_
  show Go _ _ _ _ (T9.setTop (mkF m 8 #[rv a1] [v0, (.ref b1), (.ref b1)]))
  refine go_st (fun t k => XS.aloadN X9.here hx rfl (hb hby d12_8) rfl rfl k) ?_
  show Go _ _ _ _ (T9.setTop (mkF m 9 #[rv a1] [(.ref a1), v0, (.ref b1), (.ref b1)]))
  have f10 : Fld Z h1 a1 "com/example/tuplet/tuplet/Commands$Option" "kind" "Lcom/example/tuplet/tuplet/Commands$Kind;" v1 := (H1.ext E1)
  obtain ⟨T11, X11, e11, st11⟩ := getF X9 hx hZ hown (host := "") (Or.inl (w46 hw)) Via.refl e9 f10 (g := (mkF m 9 #[rv a1] [(.ref a1), v0, (.ref b1), (.ref b1)])) rfl rfl (hb hby d12_9)
  refine go_st (fun t k => st11 t k) ?_
  show Go _ _ _ _ (T11.setTop (mkF m 12 #[rv a1] [v1, v0, (.ref b1), (.ref b1)]))
  refine go_st (fun t k => XS.aloadN X11.here hx rfl (hb hby d12_12) rfl rfl k) ?_
  show Go _ _ _ _ (T11.setTop (mkF m 13 #[rv a1] [(.ref a1), v1, v0, (.ref b1), (.ref b1)]))
  have f12 : Fld Z h1 a1 "com/example/tuplet/tuplet/Commands$Option" "label" "Ljava/lang/String;" v2 := (H2.ext E1)
  obtain ⟨T13, X13, e13, st13⟩ := getF X11 hx hZ hown (host := "") (Or.inl (w48 hw)) Via.refl e11 f12 (g := (mkF m 13 #[rv a1] [(.ref a1), v1, v0, (.ref b1), (.ref b1)])) rfl rfl (hb hby d12_13)
  refine go_st (fun t k => st13 t k) ?_
  show Go _ _ _ _ (T13.setTop (mkF m 16 #[rv a1] [v2, v1, v0, (.ref b1), (.ref b1)]))
  refine go_st (fun t k => XS.aloadN X13.here hx rfl (hb hby d12_16) rfl rfl k) ?_
  show Go _ _ _ _ (T13.setTop (mkF m 17 #[rv a1] [(.ref a1), v2, v1, v0, (.ref b1), (.ref b1)]))
  have f14 : Fld Z h1 a1 "com/example/tuplet/tuplet/Commands$Option" "help" "Ljava/lang/String;" v3 := (H3.ext E1)
  obtain ⟨T15, X15, e15, st15⟩ := getF X13 hx hZ hown (host := "") (Or.inl (w50 hw)) Via.refl e13 f14 (g := (mkF m 17 #[rv a1] [(.ref a1), v2, v1, v0, (.ref b1), (.ref b1)])) rfl rfl (hb hby d12_17)
  refine go_st (fun t k => st15 t k) ?_
  show Go _ _ _ _ (T15.setTop (mkF m 20 #[rv a1] [v3, v2, v1, v0, (.ref b1), (.ref b1)]))
  refine go_st (fun t k => XS.iconst X15.here hx rfl (hb hby d12_20) k) ?_
  show Go _ _ _ _ (T15.setTop (mkF m 21 #[rv a1] [(.int 1), v3, v2, v1, v0, (.ref b1), (.ref b1)]))
  refine go_st (fun t k => XS.aloadN X15.here hx rfl (hb hby d12_21) rfl rfl k) ?_
  show Go _ _ _ _ (T15.setTop (mkF m 22 #[rv a1] [(.ref a1), (.int 1), v3, v2, v1, v0, (.ref b1), (.ref b1)]))
  have f16 : Fld Z h1 a1 "com/example/tuplet/tuplet/Commands$Option" "byDefault" "Ljava/lang/String;" v5 := (H5.ext E1)
  obtain ⟨T17, X17, e17, st17⟩ := getF X15 hx hZ hown (host := "") (Or.inl (w54 hw)) Via.refl e15 f16 (g := (mkF m 22 #[rv a1] [(.ref a1), (.int 1), v3, v2, v1, v0, (.ref b1), (.ref b1)])) rfl rfl (hb hby d12_22)
  refine go_st (fun t k => st17 t k) ?_
  show Go _ _ _ _ (T17.setTop (mkF m 25 #[rv a1] [v5, (.int 1), v3, v2, v1, v0, (.ref b1), (.ref b1)]))
  have g_b1 : n0 ≤ b1 := Nat.le_trans (Nat.le_trans Z0 (Nat.le_refl _)) (Nat.le_of_eq gq1.symm)
  obtain ⟨_, _, ⟨T18, L18, kk18, nn18⟩, -, X18, ⟨Lc18, hQ18, lq18, yq18, zq18⟩, st18⟩ := X17.specialBack hx (y := (⟨"com/example/tuplet/tuplet/Commands$Option", "<init>", "(Ljava/lang/String;Lcom/example/tuplet/tuplet/Commands$Kind;Ljava/lang/String;Ljava/lang/String;ZLjava/lang/String;)V"⟩ : MethodName)) rfl hown (mvT hZ (w62 hw)) (mvT hZ (w36 hw)) (mvT hZ (w37 hw)) (by decide) (backOf (W := 1) (rm_ctor1 l Z a0 hw [] b1 v0 v1 v2 v3 v5 h1 n0 (Nat.le_trans Z0 E1.1) A1 f2 f3 f4 f5 f6 f7 g_b1 hv0 hv1 hv2 hv3 hv5) hZ (w37 hw) (w34 hw) (by decide) (by decide)) (g := (mkF m 25 #[rv a1] [v5, (.int 1), v3, v2, v1, v0, (.ref b1), (.ref b1)])) rfl (by rw [hml]; rfl) (Steps.refl _) (a := b1) (argsL := [v0, v1, v2, v3, (.int 1), v5]) (rest := [(.ref b1)]) (lenOf pd_2 rfl) rfl (by show 2 * 0 + _ ≤ _; exact Nat.le_of_eq rfl) (hb hby d12_25) (fun _ _ => ⟨rfl, e17, (by decide : 1 + 0 ≤ _), (by decide : 6 + 0 ≤ _)⟩)
  dsimp only [Pt.U, Pt.locs, Pt.cells, Pt.slots] at X18 lq18 yq18 zq18 st18 hQ18
  subst lq18 yq18 zq18
  obtain ⟨h18, e18⟩ : ∃ z, T18.heap = z := ⟨_, rfl⟩
  rw [e18] at hQ18
  obtain ⟨rfl, N18q, K18, p18_0, p18_1, p18_2, p18_3, p18_4, p18_5, p18_6⟩ := hQ18
  have N18 := Fr.app N0 N18q
  refine go_tr st18 ?_
  show Go _ _ _ _ (T18.setTop (mkF m 28 #[rv a1] [(.ref b1)]))
  have ke19 : Keep h0 h1 [] := (Keep.ext (Keep.refl h0 []) E1)
  have ke20 : Keep h0 h18 [] := (Keep.trans ke19 K18 (allS (Or.inr (Nat.le_of_eq gq1.symm)) all0))
  obtain ⟨fs, hr, hrun, hended, hW, hsame⟩ := X18.leave (v := some (.ref b1)) (fun h => by rw [Bd.returns] at h; cases h)
  refine ⟨_, _, ?_, hrun, hended, _, _, rfl, ?_, ⟨_, rfl⟩, hW, hsame.mono (by decide) (by decide)⟩
  · exact retOut X18 hx Bd.returns rfl (Or.inr (Or.inr (Or.inr (Or.inr ⟨rfl, rfl, rfl⟩)))) (hb hby d12_28) hr
  · show Q_asreq0 _ _ _ _ _ _ _ _ _ _ T18.heap _
    rw [e18]
    exact ⟨b1, rfl, N18, ke20, g_b1, (Nat.le_of_eq gq1.symm), p18_0, p18_1, p18_2, p18_3, p18_4, p18_5, p18_6⟩
def Q_asreq1 (Z : State) (a1 : Addr) (v0 : Value) (v1 : Value) (v2 : Value) (v3 : Value) (v5 : Value) (h0 : Heap) (n0 : Nat) (vR : Option Value) (h : Heap) (L : List Loc) : Prop := ∃ (b : Addr), vR = some (.ref b) ∧ Fr n0 L ∧ Keep h0 h [] ∧ n0 ≤ b ∧ h0.size ≤ b ∧ (Exa Z h b "com/example/tuplet/tuplet/Commands$Option") ∧ (Fld Z h b "com/example/tuplet/tuplet/Commands$Option" "name" "Ljava/lang/String;" v0) ∧ (Fld Z h b "com/example/tuplet/tuplet/Commands$Option" "kind" "Lcom/example/tuplet/tuplet/Commands$Kind;" v1) ∧ (Fld Z h b "com/example/tuplet/tuplet/Commands$Option" "label" "Ljava/lang/String;" v2) ∧ (Fld Z h b "com/example/tuplet/tuplet/Commands$Option" "help" "Ljava/lang/String;" v3) ∧ (Fld Z h b "com/example/tuplet/tuplet/Commands$Option" "required" "Z" (.int 1)) ∧ (Fld Z h b "com/example/tuplet/tuplet/Commands$Option" "byDefault" "Ljava/lang/String;" v5)
theorem ef_asreq1 (m : MethodId) (x0 : Addr) : entryFrame m #[(.ref x0)] 1 = mkF m 0 #[.val (.ref x0)] [] := by first | (simp [entryFrame, mkF, argsToLocals, Value.category]; done) | rfl
set_option maxRecDepth 65536 in
set_option maxHeartbeats 40000000 in
theorem rm_asreq1 (l : Launch) (Z : State) (a0 : Array Value) (hw : ∀ d ∈ tables_1, d.before a0 Z = true) (ws : List Jvm.Cond) (a1 : Addr) (v0 : Value) (v1 : Value) (v2 : Value) (v3 : Value) (v5 : Value) (h0 : Heap) (n0 : Nat) (Z0 : n0 ≤ h0.size) (H0 : Fld Z h0 a1 "com/example/tuplet/tuplet/Commands$Option" "name" "Ljava/lang/String;" v0) (H1 : Fld Z h0 a1 "com/example/tuplet/tuplet/Commands$Option" "kind" "Lcom/example/tuplet/tuplet/Commands$Kind;" v1) (H2 : Fld Z h0 a1 "com/example/tuplet/tuplet/Commands$Option" "label" "Ljava/lang/String;" v2) (H3 : Fld Z h0 a1 "com/example/tuplet/tuplet/Commands$Option" "help" "Ljava/lang/String;" v3) (H4 : Fld Z h0 a1 "com/example/tuplet/tuplet/Commands$Option" "required" "Z" (.int 1)) (H5 : Fld Z h0 a1 "com/example/tuplet/tuplet/Commands$Option" "byDefault" "Ljava/lang/String;" v5) (hv0 : v0.isRef = true) (hv1 : v1.isRef = true) (hv2 : v2.isRef = true) (hv3 : v3.isRef = true) (hv5 : v5.isRef = true) :
    MetFree l (⟨"com/example/tuplet/tuplet/Commands$Option", "asRequired", "()Lcom/example/tuplet/tuplet/Commands$Option;"⟩ : MethodName) (head1 (Jvm.Cond.code (⟨"com/example/tuplet/tuplet/Commands$Option", "asRequired", "()Lcom/example/tuplet/tuplet/Commands$Option;"⟩ : MethodName) prog_6_method_4_code 1 (some (.object "com/example/tuplet/tuplet/Commands$Option")) :: ws) ({ frames := 3, cells := 1, slots := 6, locals := 43 } : Room)) (fun a U => a = #[(.ref a1)] ∧ Z.Warmed39 U.vm ∧ U.heap = h0) (fun _ _ _ _ _ => True) (fun _ U o U' => ∃ v L, o = .returned v ∧ Q_asreq1 Z a1 v0 v1 v2 v3 v5 h0 n0 v U'.heap L ∧ FrameEnd U o U' L ({ frames := 3, cells := 1, slots := 6, locals := 43 } : Room).cells ({ frames := 3, cells := 1, slots := 6, locals := 43 } : Room).slots) := by
  refine MetFree.of_bodySF (plainFor_of_name pn_com_example_tuplet_tuplet_Commands_Option) hisR ?_
  intro p e s m args below meth c s₁ Bd hml0 hP hK
  obtain ⟨rfl, hZ, hh⟩ := hP
  have hx := Bd.exec
  have hby := Bd.bytes
  have hml : c.maxLocals = 1 := hml0
  have hown : s.vm.findClass "com/example/tuplet/tuplet/Commands$Option" = some m.cls := findClass_of_methodNamed Bd.named
  have hnm := (name_of_methodNamed Bd.named Bd.method).1
  have X0 : Stand p l e ({ frames := 3, cells := 1, slots := 6, locals := 43 } : Room) s m #[(.ref a1)] below meth c s₁ [] 0 0 := Stand.of_body Bd
  have e0 : s₁.heap = h0 := by rw [← hh, Bd.state]; rfl
  have N0 := Fr.nil n0
  refine go_st (fun t k => castTop (ef_asreq1 m a1) k) ?_
  show Go _ _ _ _ (s₁.setTop (mkF m 0 #[rv a1] []))
  obtain ⟨T1, h1, X1, e1, E1, A1, D1, -, st1⟩ := newO X0 hx hZ hown (w61 hw) (w33 hw) (w34 hw) e0 (g := (mkF m 0 #[rv a1] [])) rfl (hb hby d12_0) (by decide) (by decide)
  obtain ⟨b1, gq1⟩ : ∃ z, z = h0.size := ⟨_, rfl⟩
  rw [← gq1] at A1 D1 st1
  have f2 : Fld Z h1 b1 "com/example/tuplet/tuplet/Commands$Option" "name" "Ljava/lang/String;" .null := D1 (Or.inr (w45 hw)) (ty := (.object "java/lang/String")) (by decide)
  have f3 : Fld Z h1 b1 "com/example/tuplet/tuplet/Commands$Option" "kind" "Lcom/example/tuplet/tuplet/Commands$Kind;" .null := D1 (Or.inr (w47 hw)) (ty := (.object "com/example/tuplet/tuplet/Commands$Kind")) (by decide)
  have f4 : Fld Z h1 b1 "com/example/tuplet/tuplet/Commands$Option" "label" "Ljava/lang/String;" .null := D1 (Or.inr (w49 hw)) (ty := (.object "java/lang/String")) (by decide)
  have f5 : Fld Z h1 b1 "com/example/tuplet/tuplet/Commands$Option" "help" "Ljava/lang/String;" .null := D1 (Or.inr (w51 hw)) (ty := (.object "java/lang/String")) (by decide)
  have f6 : Fld Z h1 b1 "com/example/tuplet/tuplet/Commands$Option" "required" "Z" (.int 0) := D1 (Or.inr (w53 hw)) (ty := .boolean) (by decide)
  have f7 : Fld Z h1 b1 "com/example/tuplet/tuplet/Commands$Option" "byDefault" "Ljava/lang/String;" .null := D1 (Or.inr (w55 hw)) (ty := (.object "java/lang/String")) (by decide)
  refine go_st (fun t k => st1 t k) ?_
  show Go _ _ _ _ (T1.setTop (mkF m 3 #[rv a1] [(.ref b1)]))
  refine go_st (fun t k => XS.dup X1.here hx rfl (hb hby d12_3) rfl rfl k) ?_
  show Go _ _ _ _ (T1.setTop (mkF m 4 #[rv a1] [(.ref b1), (.ref b1)]))
  refine go_st (fun t k => XS.aloadN X1.here hx rfl (hb hby d12_4) rfl rfl k) ?_
  show Go _ _ _ _ (T1.setTop (mkF m 5 #[rv a1] [(.ref a1), (.ref b1), (.ref b1)]))
  have f8 : Fld Z h1 a1 "com/example/tuplet/tuplet/Commands$Option" "name" "Ljava/lang/String;" v0 := (H0.ext E1)
  obtain ⟨T9, X9, e9, st9⟩ := getF X1 hx hZ hown (host := "") (Or.inl (w44 hw)) Via.refl e1 f8 (g := (mkF m 5 #[rv a1] [(.ref a1), (.ref b1), (.ref b1)])) rfl rfl (hb hby d12_5)
  refine go_st (fun t k => st9 t k) ?_
  show Go _ _ _ _ (T9.setTop (mkF m 8 #[rv a1] [v0, (.ref b1), (.ref b1)]))
  refine go_st (fun t k => XS.aloadN X9.here hx rfl (hb hby d12_8) rfl rfl k) ?_
  show Go _ _ _ _ (T9.setTop (mkF m 9 #[rv a1] [(.ref a1), v0, (.ref b1), (.ref b1)]))
  have f10 : Fld Z h1 a1 "com/example/tuplet/tuplet/Commands$Option" "kind" "Lcom/example/tuplet/tuplet/Commands$Kind;" v1 := (H1.ext E1)
  obtain ⟨T11, X11, e11, st11⟩ := getF X9 hx hZ hown (host := "") (Or.inl (w46 hw)) Via.refl e9 f10 (g := (mkF m 9 #[rv a1] [(.ref a1), v0, (.ref b1), (.ref b1)])) rfl rfl (hb hby d12_9)
  refine go_st (fun t k => st11 t k) ?_
  show Go _ _ _ _ (T11.setTop (mkF m 12 #[rv a1] [v1, v0, (.ref b1), (.ref b1)]))
  refine go_st (fun t k => XS.aloadN X11.here hx rfl (hb hby d12_12) rfl rfl k) ?_
  show Go _ _ _ _ (T11.setTop (mkF m 13 #[rv a1] [(.ref a1), v1, v0, (.ref b1), (.ref b1)]))
  have f12 : Fld Z h1 a1 "com/example/tuplet/tuplet/Commands$Option" "label" "Ljava/lang/String;" v2 := (H2.ext E1)
  obtain ⟨T13, X13, e13, st13⟩ := getF X11 hx hZ hown (host := "") (Or.inl (w48 hw)) Via.refl e11 f12 (g := (mkF m 13 #[rv a1] [(.ref a1), v1, v0, (.ref b1), (.ref b1)])) rfl rfl (hb hby d12_13)
  refine go_st (fun t k => st13 t k) ?_
  show Go _ _ _ _ (T13.setTop (mkF m 16 #[rv a1] [v2, v1, v0, (.ref b1), (.ref b1)]))
  refine go_st (fun t k => XS.aloadN X13.here hx rfl (hb hby d12_16) rfl rfl k) ?_
  show Go _ _ _ _ (T13.setTop (mkF m 17 #[rv a1] [(.ref a1), v2, v1, v0, (.ref b1), (.ref b1)]))
  have f14 : Fld Z h1 a1 "com/example/tuplet/tuplet/Commands$Option" "help" "Ljava/lang/String;" v3 := (H3.ext E1)
  obtain ⟨T15, X15, e15, st15⟩ := getF X13 hx hZ hown (host := "") (Or.inl (w50 hw)) Via.refl e13 f14 (g := (mkF m 17 #[rv a1] [(.ref a1), v2, v1, v0, (.ref b1), (.ref b1)])) rfl rfl (hb hby d12_17)
  refine go_st (fun t k => st15 t k) ?_
  show Go _ _ _ _ (T15.setTop (mkF m 20 #[rv a1] [v3, v2, v1, v0, (.ref b1), (.ref b1)]))
  refine go_st (fun t k => XS.iconst X15.here hx rfl (hb hby d12_20) k) ?_
  show Go _ _ _ _ (T15.setTop (mkF m 21 #[rv a1] [(.int 1), v3, v2, v1, v0, (.ref b1), (.ref b1)]))
  refine go_st (fun t k => XS.aloadN X15.here hx rfl (hb hby d12_21) rfl rfl k) ?_
  show Go _ _ _ _ (T15.setTop (mkF m 22 #[rv a1] [(.ref a1), (.int 1), v3, v2, v1, v0, (.ref b1), (.ref b1)]))
  have f16 : Fld Z h1 a1 "com/example/tuplet/tuplet/Commands$Option" "byDefault" "Ljava/lang/String;" v5 := (H5.ext E1)
  obtain ⟨T17, X17, e17, st17⟩ := getF X15 hx hZ hown (host := "") (Or.inl (w54 hw)) Via.refl e15 f16 (g := (mkF m 22 #[rv a1] [(.ref a1), (.int 1), v3, v2, v1, v0, (.ref b1), (.ref b1)])) rfl rfl (hb hby d12_22)
  refine go_st (fun t k => st17 t k) ?_
  show Go _ _ _ _ (T17.setTop (mkF m 25 #[rv a1] [v5, (.int 1), v3, v2, v1, v0, (.ref b1), (.ref b1)]))
  have g_b1 : n0 ≤ b1 := Nat.le_trans (Nat.le_trans Z0 (Nat.le_refl _)) (Nat.le_of_eq gq1.symm)
  obtain ⟨_, _, ⟨T18, L18, kk18, nn18⟩, -, X18, ⟨Lc18, hQ18, lq18, yq18, zq18⟩, st18⟩ := X17.specialBack hx (y := (⟨"com/example/tuplet/tuplet/Commands$Option", "<init>", "(Ljava/lang/String;Lcom/example/tuplet/tuplet/Commands$Kind;Ljava/lang/String;Ljava/lang/String;ZLjava/lang/String;)V"⟩ : MethodName)) rfl hown (mvT hZ (w62 hw)) (mvT hZ (w36 hw)) (mvT hZ (w37 hw)) (by decide) (backOf (W := 1) (rm_ctor1 l Z a0 hw [] b1 v0 v1 v2 v3 v5 h1 n0 (Nat.le_trans Z0 E1.1) A1 f2 f3 f4 f5 f6 f7 g_b1 hv0 hv1 hv2 hv3 hv5) hZ (w37 hw) (w34 hw) (by decide) (by decide)) (g := (mkF m 25 #[rv a1] [v5, (.int 1), v3, v2, v1, v0, (.ref b1), (.ref b1)])) rfl (by rw [hml]; rfl) (Steps.refl _) (a := b1) (argsL := [v0, v1, v2, v3, (.int 1), v5]) (rest := [(.ref b1)]) (lenOf pd_2 rfl) rfl (by show 2 * 0 + _ ≤ _; exact Nat.le_of_eq rfl) (hb hby d12_25) (fun _ _ => ⟨rfl, e17, (by decide : 1 + 0 ≤ _), (by decide : 6 + 0 ≤ _)⟩)
  dsimp only [Pt.U, Pt.locs, Pt.cells, Pt.slots] at X18 lq18 yq18 zq18 st18 hQ18
  subst lq18 yq18 zq18
  obtain ⟨h18, e18⟩ : ∃ z, T18.heap = z := ⟨_, rfl⟩
  rw [e18] at hQ18
  obtain ⟨rfl, N18q, K18, p18_0, p18_1, p18_2, p18_3, p18_4, p18_5, p18_6⟩ := hQ18
  have N18 := Fr.app N0 N18q
  refine go_tr st18 ?_
  show Go _ _ _ _ (T18.setTop (mkF m 28 #[rv a1] [(.ref b1)]))
  have ke19 : Keep h0 h1 [] := (Keep.ext (Keep.refl h0 []) E1)
  have ke20 : Keep h0 h18 [] := (Keep.trans ke19 K18 (allS (Or.inr (Nat.le_of_eq gq1.symm)) all0))
  obtain ⟨fs, hr, hrun, hended, hW, hsame⟩ := X18.leave (v := some (.ref b1)) (fun h => by rw [Bd.returns] at h; cases h)
  refine ⟨_, _, ?_, hrun, hended, _, _, rfl, ?_, ⟨_, rfl⟩, hW, hsame.mono (by decide) (by decide)⟩
  · exact retOut X18 hx Bd.returns rfl (Or.inr (Or.inr (Or.inr (Or.inr ⟨rfl, rfl, rfl⟩)))) (hb hby d12_28) hr
  · show Q_asreq1 _ _ _ _ _ _ _ _ _ _ T18.heap _
    rw [e18]
    exact ⟨b1, rfl, N18, ke20, g_b1, (Nat.le_of_eq gq1.symm), p18_0, p18_1, p18_2, p18_3, p18_4, p18_5, p18_6⟩
def Q_str (Z : State) (pk : Int32) (G1 : Int32) (h0 : Heap) (n0 : Nat) (vR : Option Value) (h : Heap) (L : List Loc) : Prop := ∃ (a : Addr), vR = some (.ref a) ∧ Fr n0 L ∧ Keep h0 h [] ∧ n0 ≤ a ∧ h0.size ≤ a ∧ (Exa Z h a "java/lang/String")
theorem ef_str (m : MethodId) (x0 : Int32) : entryFrame m #[(.int x0)] 5 = mkF m 0 #[.val (.int x0), .unset, .unset, .unset, .unset] [] := by first | (simp [entryFrame, mkF, argsToLocals, Value.category]; done) | rfl
set_option maxRecDepth 65536 in
set_option maxHeartbeats 40000000 in
theorem rm_str (l : Launch) (Z : State) (a0 : Array Value) (hw : ∀ d ∈ tables_1, d.before a0 Z = true) (ws : List Jvm.Cond) (pk : Int32) (G1 : Int32) (h0 : Heap) (n0 : Nat) (Z0 : n0 ≤ h0.size) (CS : Sta Z Z.heap "java/lang/String" "COMPACT_STRINGS" "Z" (.int G1)) (CSn : ¬ (G1 = (0 : Int32))) (O0 : Old Z n0 h0) :
    MetFree l (⟨"com/example/tuplet/tuplet/OptionAsRequiredPinLaw", "str", "(I)Ljava/lang/String;"⟩ : MethodName) (head1 (Jvm.Cond.code (⟨"com/example/tuplet/tuplet/OptionAsRequiredPinLaw", "str", "(I)Ljava/lang/String;"⟩ : MethodName) method_4_code 5 (some (.object "java/lang/String")) :: ws) ({ frames := 4, cells := 6, slots := 12, locals := 66 } : Room)) (fun a U => a = #[(.int pk)] ∧ Z.Warmed39 U.vm ∧ U.heap = h0 ∧ CHv Z consts_1 U.vm h0) (fun _ _ _ _ _ => True) (fun _ U o U' => ∃ v L, o = .returned v ∧ Q_str Z pk G1 h0 n0 v U'.heap L ∧ CHr Z consts_1 U.vm U.heap U'.vm U'.heap ∧ ReturnedEndW U o U' L ({ frames := 4, cells := 6, slots := 12, locals := 66 } : Room).cells ({ frames := 4, cells := 6, slots := 12, locals := 66 } : Room).slots) := by
  refine MetFree.of_bodySF (plainFor_of_name pn_com_example_tuplet_tuplet_OptionAsRequiredPinLaw) hisR ?_
  intro p e s m args below meth c s₁ Bd hml0 hP hK
  obtain ⟨rfl, hZs, hh, HC0⟩ := hP
  have hx := Bd.exec
  have hby := Bd.bytes
  have hml : c.maxLocals = 5 := hml0
  have hZ : Z.Warmed39 (s.setVm s.vm).vm := hZs
  have hown : (s.setVm s.vm).vm.findClass "com/example/tuplet/tuplet/OptionAsRequiredPinLaw" = some m.cls := findClass_of_methodNamed Bd.named
  have hnm := (name_of_methodNamed Bd.named Bd.method).1
  have X0 : Stand p l e ({ frames := 4, cells := 6, slots := 12, locals := 66 } : Room) (s.setVm s.vm) m #[(.int pk)] below meth c s₁ [] 0 0 := Stand.of_body Bd
  have e0 : s₁.heap = h0 := by rw [← hh, Bd.state]; rfl
  have N0 := Fr.nil n0
  have hS0 : s.Since s.vm s.heap.size := (State.WarmedH.refl s).since _
  have hk0 : s.heap.size ≤ h0.size := Nat.le_of_eq (congrArg Array.size hh)
  have C0 : CHr Z consts_1 s.vm h0 s.vm h0 := CHr.refl HC0
  refine go_st (fun t k => castTop (ef_str m pk) k) ?_
  show Go _ _ _ _ (s₁.setTop (mkF m 0 #[iv pk, .unset, .unset, .unset, .unset] []))
  refine go_st (fun t k => XS.iloadN X0.here hx rfl (hb hby d13_0) rfl k) ?_
  show Go _ _ _ _ (s₁.setTop (mkF m 1 #[iv pk, .unset, .unset, .unset, .unset] [(.int pk)]))
  refine go_st (fun t k => XS.sipush X0.here hx rfl (hb hby d13_1) k) ?_
  show Go _ _ _ _ (s₁.setTop (mkF m 4 #[iv pk, .unset, .unset, .unset, .unset] [(.int 255), (.int pk)]))
  refine go_st (fun t k => XS.iand X0.here hx rfl (hb hby d13_4) rfl k) ?_
  show Go _ _ _ _ (s₁.setTop (mkF m 5 #[iv pk, .unset, .unset, .unset, .unset] [(.int (pk &&& (255 : Int32)))]))
  refine go_st (fun t k => XS.i2c X0.here hx rfl (hb hby d13_5) rfl k) ?_
  show Go _ _ _ _ (s₁.setTop (mkF m 6 #[iv pk, .unset, .unset, .unset, .unset] [(.int (((pk &&& (255 : Int32))).toUInt32.toUInt16.toUInt32.toInt32))]))
  refine go_st (fun t k => XS.istoreN X0.here hx rfl (hb hby d13_6) rfl (l' := #[iv pk, iv (((pk &&& (255 : Int32))).toUInt32.toUInt16.toUInt32.toInt32), .unset, .unset, .unset]) rfl k) ?_
  show Go _ _ _ _ (s₁.setTop (mkF m 7 #[iv pk, iv (((pk &&& (255 : Int32))).toUInt32.toUInt16.toUInt32.toInt32), .unset, .unset, .unset] []))
  refine go_st (fun t k => XS.iloadN X0.here hx rfl (hb hby d13_7) rfl k) ?_
  show Go _ _ _ _ (s₁.setTop (mkF m 8 #[iv pk, iv (((pk &&& (255 : Int32))).toUInt32.toUInt16.toUInt32.toInt32), .unset, .unset, .unset] [(.int pk)]))
  refine go_st (fun t k => XS.bipush X0.here hx rfl (hb hby d13_8) k) ?_
  show Go _ _ _ _ (s₁.setTop (mkF m 10 #[iv pk, iv (((pk &&& (255 : Int32))).toUInt32.toUInt16.toUInt32.toInt32), .unset, .unset, .unset] [(.int 8), (.int pk)]))
  refine go_st (fun t k => XS.iushr X0.here hx rfl (hb hby d13_10) rfl k) ?_
  show Go _ _ _ _ (s₁.setTop (mkF m 11 #[iv pk, iv (((pk &&& (255 : Int32))).toUInt32.toUInt16.toUInt32.toInt32), .unset, .unset, .unset] [(.int ((pk).toUInt32 >>> ((8 : Int32) &&& 31).toUInt32).toInt32)]))
  refine go_st (fun t k => XS.sipush X0.here hx rfl (hb hby d13_11) k) ?_
  show Go _ _ _ _ (s₁.setTop (mkF m 14 #[iv pk, iv (((pk &&& (255 : Int32))).toUInt32.toUInt16.toUInt32.toInt32), .unset, .unset, .unset] [(.int 255), (.int ((pk).toUInt32 >>> ((8 : Int32) &&& 31).toUInt32).toInt32)]))
  refine go_st (fun t k => XS.iand X0.here hx rfl (hb hby d13_14) rfl k) ?_
  show Go _ _ _ _ (s₁.setTop (mkF m 15 #[iv pk, iv (((pk &&& (255 : Int32))).toUInt32.toUInt16.toUInt32.toInt32), .unset, .unset, .unset] [(.int (((pk).toUInt32 >>> ((8 : Int32) &&& 31).toUInt32).toInt32 &&& (255 : Int32)))]))
  refine go_st (fun t k => XS.i2c X0.here hx rfl (hb hby d13_15) rfl k) ?_
  show Go _ _ _ _ (s₁.setTop (mkF m 16 #[iv pk, iv (((pk &&& (255 : Int32))).toUInt32.toUInt16.toUInt32.toInt32), .unset, .unset, .unset] [(.int (((((pk).toUInt32 >>> ((8 : Int32) &&& 31).toUInt32).toInt32 &&& (255 : Int32))).toUInt32.toUInt16.toUInt32.toInt32))]))
  refine go_st (fun t k => XS.istoreN X0.here hx rfl (hb hby d13_16) rfl (l' := #[iv pk, iv (((pk &&& (255 : Int32))).toUInt32.toUInt16.toUInt32.toInt32), iv (((((pk).toUInt32 >>> ((8 : Int32) &&& 31).toUInt32).toInt32 &&& (255 : Int32))).toUInt32.toUInt16.toUInt32.toInt32), .unset, .unset]) rfl k) ?_
  show Go _ _ _ _ (s₁.setTop (mkF m 17 #[iv pk, iv (((pk &&& (255 : Int32))).toUInt32.toUInt16.toUInt32.toInt32), iv (((((pk).toUInt32 >>> ((8 : Int32) &&& 31).toUInt32).toInt32 &&& (255 : Int32))).toUInt32.toUInt16.toUInt32.toInt32), .unset, .unset] []))
  refine go_st (fun t k => XS.iloadN X0.here hx rfl (hb hby d13_17) rfl k) ?_
  show Go _ _ _ _ (s₁.setTop (mkF m 18 #[iv pk, iv (((pk &&& (255 : Int32))).toUInt32.toUInt16.toUInt32.toInt32), iv (((((pk).toUInt32 >>> ((8 : Int32) &&& 31).toUInt32).toInt32 &&& (255 : Int32))).toUInt32.toUInt16.toUInt32.toInt32), .unset, .unset] [(.int pk)]))
  refine go_st (fun t k => XS.bipush X0.here hx rfl (hb hby d13_18) k) ?_
  show Go _ _ _ _ (s₁.setTop (mkF m 20 #[iv pk, iv (((pk &&& (255 : Int32))).toUInt32.toUInt16.toUInt32.toInt32), iv (((((pk).toUInt32 >>> ((8 : Int32) &&& 31).toUInt32).toInt32 &&& (255 : Int32))).toUInt32.toUInt16.toUInt32.toInt32), .unset, .unset] [(.int 16), (.int pk)]))
  refine go_st (fun t k => XS.iushr X0.here hx rfl (hb hby d13_20) rfl k) ?_
  show Go _ _ _ _ (s₁.setTop (mkF m 21 #[iv pk, iv (((pk &&& (255 : Int32))).toUInt32.toUInt16.toUInt32.toInt32), iv (((((pk).toUInt32 >>> ((8 : Int32) &&& 31).toUInt32).toInt32 &&& (255 : Int32))).toUInt32.toUInt16.toUInt32.toInt32), .unset, .unset] [(.int ((pk).toUInt32 >>> ((16 : Int32) &&& 31).toUInt32).toInt32)]))
  refine go_st (fun t k => XS.iconst X0.here hx rfl (hb hby d13_21) k) ?_
  show Go _ _ _ _ (s₁.setTop (mkF m 22 #[iv pk, iv (((pk &&& (255 : Int32))).toUInt32.toUInt16.toUInt32.toInt32), iv (((((pk).toUInt32 >>> ((8 : Int32) &&& 31).toUInt32).toInt32 &&& (255 : Int32))).toUInt32.toUInt16.toUInt32.toInt32), .unset, .unset] [(.int 3), (.int ((pk).toUInt32 >>> ((16 : Int32) &&& 31).toUInt32).toInt32)]))
  refine go_st (fun t k => XS.iand X0.here hx rfl (hb hby d13_22) rfl k) ?_
  show Go _ _ _ _ (s₁.setTop (mkF m 23 #[iv pk, iv (((pk &&& (255 : Int32))).toUInt32.toUInt16.toUInt32.toInt32), iv (((((pk).toUInt32 >>> ((8 : Int32) &&& 31).toUInt32).toInt32 &&& (255 : Int32))).toUInt32.toUInt16.toUInt32.toInt32), .unset, .unset] [(.int (((pk).toUInt32 >>> ((16 : Int32) &&& 31).toUInt32).toInt32 &&& (3 : Int32)))]))
  refine go_st (fun t k => XS.istoreN X0.here hx rfl (hb hby d13_23) rfl (l' := #[iv pk, iv (((pk &&& (255 : Int32))).toUInt32.toUInt16.toUInt32.toInt32), iv (((((pk).toUInt32 >>> ((8 : Int32) &&& 31).toUInt32).toInt32 &&& (255 : Int32))).toUInt32.toUInt16.toUInt32.toInt32), iv (((pk).toUInt32 >>> ((16 : Int32) &&& 31).toUInt32).toInt32 &&& (3 : Int32)), .unset]) rfl k) ?_
  show Go _ _ _ _ (s₁.setTop (mkF m 24 #[iv pk, iv (((pk &&& (255 : Int32))).toUInt32.toUInt16.toUInt32.toInt32), iv (((((pk).toUInt32 >>> ((8 : Int32) &&& 31).toUInt32).toInt32 &&& (255 : Int32))).toUInt32.toUInt16.toUInt32.toInt32), iv (((pk).toUInt32 >>> ((16 : Int32) &&& 31).toUInt32).toInt32 &&& (3 : Int32)), .unset] []))
  refine go_st (fun t k => XS.iloadN X0.here hx rfl (hb hby d13_24) rfl k) ?_
  show Go _ _ _ _ (s₁.setTop (mkF m 25 #[iv pk, iv (((pk &&& (255 : Int32))).toUInt32.toUInt16.toUInt32.toInt32), iv (((((pk).toUInt32 >>> ((8 : Int32) &&& 31).toUInt32).toInt32 &&& (255 : Int32))).toUInt32.toUInt16.toUInt32.toInt32), iv (((pk).toUInt32 >>> ((16 : Int32) &&& 31).toUInt32).toInt32 &&& (3 : Int32)), .unset] [(.int (((pk).toUInt32 >>> ((16 : Int32) &&& 31).toUInt32).toInt32 &&& (3 : Int32)))]))
  by_cases hc1 : (((pk).toUInt32 >>> ((16 : Int32) &&& 31).toUInt32).toInt32 &&& (3 : Int32)) = (0 : Int32)
  · skip
    refine go_st (fun t k => XS.ifNo X0.here hx rfl (hb hby d13_25) rfl ((if0 _ _).trans (teq (hc1 : (((pk).toUInt32 >>> ((16 : Int32) &&& 31).toUInt32).toInt32 &&& (3 : Int32)) = (0 : Int32))).2) k) ?_
    show Go _ _ _ _ (s₁.setTop (mkF m 28 #[iv pk, iv (((pk &&& (255 : Int32))).toUInt32.toUInt16.toUInt32.toInt32), iv (((((pk).toUInt32 >>> ((8 : Int32) &&& 31).toUInt32).toInt32 &&& (255 : Int32))).toUInt32.toUInt16.toUInt32.toInt32), iv (((pk).toUInt32 >>> ((16 : Int32) &&& 31).toUInt32).toInt32 &&& (3 : Int32)), .unset] []))
    obtain ⟨T2, h2, X2, e2, E2, A2, D2, -, st2⟩ := newO X0 hx hZ hown (w10 hw) (w11 hw) (w12 hw) e0 (g := (mkF m 28 #[iv pk, iv (((pk &&& (255 : Int32))).toUInt32.toUInt16.toUInt32.toInt32), iv (((((pk).toUInt32 >>> ((8 : Int32) &&& 31).toUInt32).toInt32 &&& (255 : Int32))).toUInt32.toUInt16.toUInt32.toInt32), iv (((pk).toUInt32 >>> ((16 : Int32) &&& 31).toUInt32).toInt32 &&& (3 : Int32)), .unset] [])) rfl (hb hby d13_28) (by decide) (by decide)
    obtain ⟨b2, gq2⟩ : ∃ z, z = h0.size := ⟨_, rfl⟩
    rw [← gq2] at A2 D2 st2
    have sn2 : Safe Z consts_1 s.vm h0 b2 := Safe.new (Nat.le_of_eq gq2.symm)
    have C3 : CHr Z consts_1 s.vm h0 s.vm h2 := CHr.trans C0 (CHr.ext E2 C0.1)
    have sf4 : Safe Z consts_1 s.vm h2 b2 := Safe.ext E2 C0.1 sn2
    have f5 : Fld Z h2 b2 "java/lang/String" "value" "[B" .null := D2 (Or.inr (w26 hw)) (ty := (.array .byte)) (by decide)
    have f6 : Fld Z h2 b2 "java/lang/String" "coder" "B" (.int 0) := D2 (Or.inr (w27 hw)) (ty := .byte) (by decide)
    refine go_st (fun t k => st2 t k) ?_
    show Go _ _ _ _ (T2.setTop (mkF m 31 #[iv pk, iv (((pk &&& (255 : Int32))).toUInt32.toUInt16.toUInt32.toInt32), iv (((((pk).toUInt32 >>> ((8 : Int32) &&& 31).toUInt32).toInt32 &&& (255 : Int32))).toUInt32.toUInt16.toUInt32.toInt32), iv (((pk).toUInt32 >>> ((16 : Int32) &&& 31).toUInt32).toInt32 &&& (3 : Int32)), .unset] [(.ref b2)]))
    refine go_st (fun t k => XS.dup X2.here hx rfl (hb hby d13_31) rfl rfl k) ?_
    show Go _ _ _ _ (T2.setTop (mkF m 32 #[iv pk, iv (((pk &&& (255 : Int32))).toUInt32.toUInt16.toUInt32.toInt32), iv (((((pk).toUInt32 >>> ((8 : Int32) &&& 31).toUInt32).toInt32 &&& (255 : Int32))).toUInt32.toUInt16.toUInt32.toInt32), iv (((pk).toUInt32 >>> ((16 : Int32) &&& 31).toUInt32).toInt32 &&& (3 : Int32)), .unset] [(.ref b2), (.ref b2)]))
    refine go_st (fun t k => XS.iconst X2.here hx rfl (hb hby d13_32) k) ?_
    show Go _ _ _ _ (T2.setTop (mkF m 33 #[iv pk, iv (((pk &&& (255 : Int32))).toUInt32.toUInt16.toUInt32.toInt32), iv (((((pk).toUInt32 >>> ((8 : Int32) &&& 31).toUInt32).toInt32 &&& (255 : Int32))).toUInt32.toUInt16.toUInt32.toInt32), iv (((pk).toUInt32 >>> ((16 : Int32) &&& 31).toUInt32).toInt32 &&& (3 : Int32)), .unset] [(.int 0), (.ref b2), (.ref b2)]))
    obtain ⟨T7, h7, kc7, X7, e7, E7, A7, st7⟩ := newP X2 hx hZ (aty := .char) (w13 hw) e2 (g := (mkF m 33 #[iv pk, iv (((pk &&& (255 : Int32))).toUInt32.toUInt16.toUInt32.toInt32), iv (((((pk).toUInt32 >>> ((8 : Int32) &&& 31).toUInt32).toInt32 &&& (255 : Int32))).toUInt32.toUInt16.toUInt32.toInt32), iv (((pk).toUInt32 >>> ((16 : Int32) &&& 31).toUInt32).toInt32 &&& (3 : Int32)), .unset] [(.int 0), (.ref b2), (.ref b2)])) rfl (hb hby d13_33) rfl (by decide) (cap := 0) (by decide) (by decide) (by decide) (by decide)
    obtain ⟨b7, gq7⟩ : ∃ z, z = h2.size := ⟨_, rfl⟩
    rw [← gq7] at A7 st7
    have C8 : CHr Z consts_1 s.vm h0 s.vm h7 := CHr.trans C3 (CHr.ext E7 C3.1)
    have sf9 : Safe Z consts_1 s.vm h7 b2 := (Safe.ext E7 C3.1 sf4)
    have f10 : Arv Z h7 b7 kc7 .char (0 : Int32) [] (.int 0) := (Arv.new A7 (by decide)).pad (pad_rep [] (.int 0) 0)
    refine go_st (fun t k => st7 t k) ?_
    show Go _ _ _ _ (T7.setTop (mkF m 35 #[iv pk, iv (((pk &&& (255 : Int32))).toUInt32.toUInt16.toUInt32.toInt32), iv (((((pk).toUInt32 >>> ((8 : Int32) &&& 31).toUInt32).toInt32 &&& (255 : Int32))).toUInt32.toUInt16.toUInt32.toInt32), iv (((pk).toUInt32 >>> ((16 : Int32) &&& 31).toUInt32).toInt32 &&& (3 : Int32)), .unset] [(.ref b7), (.ref b2), (.ref b2)]))
    have f11 : Exa Z h7 b2 "java/lang/String" := (A2.ext E7)
    have f12 : Fld Z h7 b2 "java/lang/String" "value" "[B" .null := (f5.ext E7)
    have f13 : Fld Z h7 b2 "java/lang/String" "coder" "B" (.int 0) := (f6.ext E7)
    have g_b2 : n0 ≤ b2 := Nat.le_trans (Nat.le_trans Z0 (Nat.le_refl _)) (Nat.le_of_eq gq2.symm)
    have nq14 : b2 ≠ b7 := Nat.ne_of_lt (Nat.lt_of_lt_of_le (Nat.lt_of_lt_of_le A2.lt (Nat.le_refl _)) (Nat.le_of_eq gq7.symm))
    have sz15 : h0.size ≤ h7.size := (Nat.le_trans E2.1 E7.1)
    obtain ⟨_, _, ⟨T16, L16, kk16, nn16⟩, -, X16, hs216, hg16, ⟨Lc16, hQ16, lq16, yq16, zq16, hC16⟩, st16⟩ := X7.specialBackS hx (y := (⟨"java/lang/String", "<init>", "([C)V"⟩ : MethodName)) rfl hown (mvT hZ (w14 hw)) (mvT hZ (w15 hw)) (mvT hZ (w16 hw)) (by decide) (backOfSH (vm0 := s.vm) (W := 1) (rm_strE1 l Z a0 hw [] b2 b7 kc7 h7 n0 (Nat.le_trans Z0 sz15) f11 f12 f13 f10 g_b2 nq14) hZ (w16 hw) (w12 hw) (by decide) (by decide) (hEL hw) C8.1) (g := (mkF m 35 #[iv pk, iv (((pk &&& (255 : Int32))).toUInt32.toUInt16.toUInt32.toInt32), iv (((((pk).toUInt32 >>> ((8 : Int32) &&& 31).toUInt32).toInt32 &&& (255 : Int32))).toUInt32.toUInt16.toUInt32.toInt32), iv (((pk).toUInt32 >>> ((16 : Int32) &&& 31).toUInt32).toInt32 &&& (3 : Int32)), .unset] [(.ref b7), (.ref b2), (.ref b2)])) rfl (by rw [hml]; rfl) (Steps.refl _) (a := b2) (argsL := [(.ref b7)]) (rest := [(.ref b2)]) (lenOf pd_3 rfl) rfl (by show 2 * 0 + _ ≤ _; exact Nat.le_of_eq rfl) (hb hby d13_35) (fun _ _ => ⟨rfl, e7, (by decide : 2 + 4 ≤ _), (by decide : 4 + 8 ≤ _)⟩)
    dsimp only [Pt.U, Pt.locs, Pt.cells, Pt.slots] at X16 hs216 hg16 lq16 yq16 zq16 st16 hQ16 hC16
    subst lq16 yq16 zq16
    rw [e7] at hg16
    obtain ⟨X16, hS16, hZ16, hown16⟩ := rebS (vm0 := s.vm) hS0 (Nat.le_trans hk0 sz15) X16 hs216 hg16 hZ hown
    obtain ⟨h16, e16⟩ : ∃ z, T16.heap = z := ⟨_, rfl⟩
    rw [e16] at hQ16 hg16 hC16 hS16
    obtain ⟨t_16, kb_16, rfl, N16q, K16, p16_0, p16_1, p16_2, p16_3⟩ := hQ16
    have N16 := Fr.app N0 N16q
    have C17 : CHr Z consts_1 s.vm h0 T16.vm h16 := CHr.trans C8 hC16
    have sf18 : Safe Z consts_1 T16.vm h16 b2 := (CHr.safe hC16 f11.lt sf9)
    refine go_tr st16 ?_
    show Go _ _ _ _ (T16.setTop (mkF m 38 #[iv pk, iv (((pk &&& (255 : Int32))).toUInt32.toUInt16.toUInt32.toInt32), iv (((((pk).toUInt32 >>> ((8 : Int32) &&& 31).toUInt32).toInt32 &&& (255 : Int32))).toUInt32.toUInt16.toUInt32.toInt32), iv (((pk).toUInt32 >>> ((16 : Int32) &&& 31).toUInt32).toInt32 &&& (3 : Int32)), .unset] [(.ref b2)]))
    have ke19 : Keep h0 h2 [] := (Keep.ext (Keep.refl h0 []) E2)
    have ke20 : Keep h0 h7 [] := (Keep.ext ke19 E7)
    have ke21 : Keep h0 h16 [] := (Keep.trans ke20 K16 (allS (Or.inr (Nat.le_of_eq gq2.symm)) all0))
    obtain ⟨fs, hr, hrun, hended, hR⟩ := X16.leaveW hS16 (by rw [e16]; exact (Nat.le_trans (Nat.le_refl _) (Nat.le_refl _))) (v := some (.ref b2)) (fun h => by rw [Bd.returns] at h; cases h)
    refine ⟨_, _, ?_, hrun, hended, _, _, rfl, ?_, ?_, hR.1, hR.2.1, hR.2.2.1, hR.2.2.2.mono (by decide) (by decide)⟩
    · exact retOut X16 hx Bd.returns rfl (Or.inr (Or.inr (Or.inr (Or.inr ⟨rfl, rfl, rfl⟩)))) (hb hby d13_38) hr
    · show Q_str _ _ _ _ _ _ T16.heap _
      rw [e16]
      exact ⟨b2, rfl, N16, ke21, g_b2, (Nat.le_of_eq gq2.symm), p16_0⟩
    · show CHr Z consts_1 s.vm s.heap T16.vm T16.heap
      rw [hh, e16]
      exact CHr.trans C17 (CHv.at X16 hZ16 (hEL hw) C17.1)
  · skip
    refine go_st (fun t k => XS.ifYes X0.here hx rfl (pc0 := 25) (pc' := 39) rfl (hb hby d13_25) rfl ((if0 _ _).trans (feq (hc1 : ¬ ((((pk).toUInt32 >>> ((16 : Int32) &&& 31).toUInt32).toInt32 &&& (3 : Int32)) = (0 : Int32)))).2) (by decide) (by decide) k) ?_
    show Go _ _ _ _ (s₁.setTop (mkF m 39 #[iv pk, iv (((pk &&& (255 : Int32))).toUInt32.toUInt16.toUInt32.toInt32), iv (((((pk).toUInt32 >>> ((8 : Int32) &&& 31).toUInt32).toInt32 &&& (255 : Int32))).toUInt32.toUInt16.toUInt32.toInt32), iv (((pk).toUInt32 >>> ((16 : Int32) &&& 31).toUInt32).toInt32 &&& (3 : Int32)), .unset] []))
    refine go_st (fun t k => XS.iloadN X0.here hx rfl (hb hby d13_39) rfl k) ?_
    show Go _ _ _ _ (s₁.setTop (mkF m 40 #[iv pk, iv (((pk &&& (255 : Int32))).toUInt32.toUInt16.toUInt32.toInt32), iv (((((pk).toUInt32 >>> ((8 : Int32) &&& 31).toUInt32).toInt32 &&& (255 : Int32))).toUInt32.toUInt16.toUInt32.toInt32), iv (((pk).toUInt32 >>> ((16 : Int32) &&& 31).toUInt32).toInt32 &&& (3 : Int32)), .unset] [(.int (((pk).toUInt32 >>> ((16 : Int32) &&& 31).toUInt32).toInt32 &&& (3 : Int32)))]))
    refine go_st (fun t k => XS.iconst X0.here hx rfl (hb hby d13_40) k) ?_
    show Go _ _ _ _ (s₁.setTop (mkF m 41 #[iv pk, iv (((pk &&& (255 : Int32))).toUInt32.toUInt16.toUInt32.toInt32), iv (((((pk).toUInt32 >>> ((8 : Int32) &&& 31).toUInt32).toInt32 &&& (255 : Int32))).toUInt32.toUInt16.toUInt32.toInt32), iv (((pk).toUInt32 >>> ((16 : Int32) &&& 31).toUInt32).toInt32 &&& (3 : Int32)), .unset] [(.int 1), (.int (((pk).toUInt32 >>> ((16 : Int32) &&& 31).toUInt32).toInt32 &&& (3 : Int32)))]))
    by_cases hc22 : (((pk).toUInt32 >>> ((16 : Int32) &&& 31).toUInt32).toInt32 &&& (3 : Int32)) = (1 : Int32)
    · skip
      refine go_st (fun t k => XS.icmpNo X0.here hx rfl (hb hby d13_41) rfl (teq (hc22 : (((pk).toUInt32 >>> ((16 : Int32) &&& 31).toUInt32).toInt32 &&& (3 : Int32)) = (1 : Int32))).2 k) ?_
      show Go _ _ _ _ (s₁.setTop (mkF m 44 #[iv pk, iv (((pk &&& (255 : Int32))).toUInt32.toUInt16.toUInt32.toInt32), iv (((((pk).toUInt32 >>> ((8 : Int32) &&& 31).toUInt32).toInt32 &&& (255 : Int32))).toUInt32.toUInt16.toUInt32.toInt32), iv (((pk).toUInt32 >>> ((16 : Int32) &&& 31).toUInt32).toInt32 &&& (3 : Int32)), .unset] []))
      refine go_st (fun t k => XS.iconst X0.here hx rfl (hb hby d13_44) k) ?_
      show Go _ _ _ _ (s₁.setTop (mkF m 45 #[iv pk, iv (((pk &&& (255 : Int32))).toUInt32.toUInt16.toUInt32.toInt32), iv (((((pk).toUInt32 >>> ((8 : Int32) &&& 31).toUInt32).toInt32 &&& (255 : Int32))).toUInt32.toUInt16.toUInt32.toInt32), iv (((pk).toUInt32 >>> ((16 : Int32) &&& 31).toUInt32).toInt32 &&& (3 : Int32)), .unset] [(.int 1)]))
      obtain ⟨T23, h23, kc23, X23, e23, E23, A23, st23⟩ := newP X0 hx hZ (aty := .char) (w13 hw) e0 (g := (mkF m 45 #[iv pk, iv (((pk &&& (255 : Int32))).toUInt32.toUInt16.toUInt32.toInt32), iv (((((pk).toUInt32 >>> ((8 : Int32) &&& 31).toUInt32).toInt32 &&& (255 : Int32))).toUInt32.toUInt16.toUInt32.toInt32), iv (((pk).toUInt32 >>> ((16 : Int32) &&& 31).toUInt32).toInt32 &&& (3 : Int32)), .unset] [(.int 1)])) rfl (hb hby d13_45) rfl (by decide) (cap := 1) (by decide) (by decide) (by decide) (by decide)
      obtain ⟨b23, gq23⟩ : ∃ z, z = h0.size := ⟨_, rfl⟩
      rw [← gq23] at A23 st23
      have C24 : CHr Z consts_1 s.vm h0 s.vm h23 := CHr.trans C0 (CHr.ext E23 C0.1)
      have f25 : Arv Z h23 b23 kc23 .char (1 : Int32) [(.int 0)] (.int 0) := (Arv.new A23 (by decide)).pad (pad_rep [] (.int 0) 1)
      refine go_st (fun t k => st23 t k) ?_
      show Go _ _ _ _ (T23.setTop (mkF m 47 #[iv pk, iv (((pk &&& (255 : Int32))).toUInt32.toUInt16.toUInt32.toInt32), iv (((((pk).toUInt32 >>> ((8 : Int32) &&& 31).toUInt32).toInt32 &&& (255 : Int32))).toUInt32.toUInt16.toUInt32.toInt32), iv (((pk).toUInt32 >>> ((16 : Int32) &&& 31).toUInt32).toInt32 &&& (3 : Int32)), .unset] [(.ref b23)]))
      refine go_st (fun t k => XS.astore X23.here hx rfl (hb hby d13_47) rfl rfl (l' := #[iv pk, iv (((pk &&& (255 : Int32))).toUInt32.toUInt16.toUInt32.toInt32), iv (((((pk).toUInt32 >>> ((8 : Int32) &&& 31).toUInt32).toInt32 &&& (255 : Int32))).toUInt32.toUInt16.toUInt32.toInt32), iv (((pk).toUInt32 >>> ((16 : Int32) &&& 31).toUInt32).toInt32 &&& (3 : Int32)), rv b23]) rfl k) ?_
      show Go _ _ _ _ (T23.setTop (mkF m 49 #[iv pk, iv (((pk &&& (255 : Int32))).toUInt32.toUInt16.toUInt32.toInt32), iv (((((pk).toUInt32 >>> ((8 : Int32) &&& 31).toUInt32).toInt32 &&& (255 : Int32))).toUInt32.toUInt16.toUInt32.toInt32), iv (((pk).toUInt32 >>> ((16 : Int32) &&& 31).toUInt32).toInt32 &&& (3 : Int32)), rv b23] []))
      refine go_st (fun t k => XS.aload X23.here hx rfl (hb hby d13_49) rfl rfl k) ?_
      show Go _ _ _ _ (T23.setTop (mkF m 51 #[iv pk, iv (((pk &&& (255 : Int32))).toUInt32.toUInt16.toUInt32.toInt32), iv (((((pk).toUInt32 >>> ((8 : Int32) &&& 31).toUInt32).toInt32 &&& (255 : Int32))).toUInt32.toUInt16.toUInt32.toInt32), iv (((pk).toUInt32 >>> ((16 : Int32) &&& 31).toUInt32).toInt32 &&& (3 : Int32)), rv b23] [(.ref b23)]))
      refine go_st (fun t k => XS.iconst X23.here hx rfl (hb hby d13_51) k) ?_
      show Go _ _ _ _ (T23.setTop (mkF m 52 #[iv pk, iv (((pk &&& (255 : Int32))).toUInt32.toUInt16.toUInt32.toInt32), iv (((((pk).toUInt32 >>> ((8 : Int32) &&& 31).toUInt32).toInt32 &&& (255 : Int32))).toUInt32.toUInt16.toUInt32.toInt32), iv (((pk).toUInt32 >>> ((16 : Int32) &&& 31).toUInt32).toInt32 &&& (3 : Int32)), rv b23] [(.int 0), (.ref b23)]))
      refine go_st (fun t k => XS.iloadN X23.here hx rfl (hb hby d13_52) rfl k) ?_
      show Go _ _ _ _ (T23.setTop (mkF m 53 #[iv pk, iv (((pk &&& (255 : Int32))).toUInt32.toUInt16.toUInt32.toInt32), iv (((((pk).toUInt32 >>> ((8 : Int32) &&& 31).toUInt32).toInt32 &&& (255 : Int32))).toUInt32.toUInt16.toUInt32.toInt32), iv (((pk).toUInt32 >>> ((16 : Int32) &&& 31).toUInt32).toInt32 &&& (3 : Int32)), rv b23] [(.int (((pk &&& (255 : Int32))).toUInt32.toUInt16.toUInt32.toInt32)), (.int 0), (.ref b23)]))
      obtain ⟨zc26, zA26, zq26, zS26, zN26, zH26, zG26⟩ := id f25
      have hin26 : ¬ ((0 : Int32) < 0 ∨ zc26.slots.size ≤ ((0 : Int32)).toNatClampNeg) := inb_of zS26 ⟨by decide, by decide⟩
      obtain ⟨T26, h26, X26, e26, W26, st26⟩ := stC X23 hx hZ e23 zA26 (j := (0 : Int32)) hin26 (g := (mkF m 53 #[iv pk, iv (((pk &&& (255 : Int32))).toUInt32.toUInt16.toUInt32.toInt32), iv (((((pk).toUInt32 >>> ((8 : Int32) &&& 31).toUInt32).toInt32 &&& (255 : Int32))).toUInt32.toUInt16.toUInt32.toInt32), iv (((pk).toUInt32 >>> ((16 : Int32) &&& 31).toUInt32).toInt32 &&& (3 : Int32)), rv b23] [(.int (((pk &&& (255 : Int32))).toUInt32.toUInt16.toUInt32.toInt32)), (.int 0), (.ref b23)])) rfl rfl (hb hby d13_53)
      have g_b23 : n0 ≤ b23 := Nat.le_trans (Nat.le_trans Z0 (Nat.le_refl _)) (Nat.le_of_eq gq23.symm)
      have N26 := Fr.snoc X26 N0 g_b23
      have C27 : CHr Z consts_1 s.vm h0 s.vm h26 := CHr.trans C24 (CHr.wr W26 (Safe.arv hZ.alike f25 (by decide)) C24.1)
      have f28 : Arv Z h26 b23 kc23 .char (1 : Int32) [(.int (nar .char (((pk &&& (255 : Int32))).toUInt32.toUInt16.toUInt32.toInt32)))] (.int 0) := Arv.set zA26 zq26 zS26 zN26 zH26 zG26 (fits_nar_char _) W26 0 rfl (Nat.le_of_ble_eq_true rfl)
      refine go_st (fun t k => st26 t k) ?_
      show Go _ _ _ _ (T26.setTop (mkF m 54 #[iv pk, iv (((pk &&& (255 : Int32))).toUInt32.toUInt16.toUInt32.toInt32), iv (((((pk).toUInt32 >>> ((8 : Int32) &&& 31).toUInt32).toInt32 &&& (255 : Int32))).toUInt32.toUInt16.toUInt32.toInt32), iv (((pk).toUInt32 >>> ((16 : Int32) &&& 31).toUInt32).toInt32 &&& (3 : Int32)), rv b23] []))
      obtain ⟨T29, h29, X29, e29, E29, A29, D29, -, st29⟩ := newO X26 hx hZ hown (w10 hw) (w11 hw) (w12 hw) e26 (g := (mkF m 54 #[iv pk, iv (((pk &&& (255 : Int32))).toUInt32.toUInt16.toUInt32.toInt32), iv (((((pk).toUInt32 >>> ((8 : Int32) &&& 31).toUInt32).toInt32 &&& (255 : Int32))).toUInt32.toUInt16.toUInt32.toInt32), iv (((pk).toUInt32 >>> ((16 : Int32) &&& 31).toUInt32).toInt32 &&& (3 : Int32)), rv b23] [])) rfl (hb hby d13_54) (by decide) (by decide)
      obtain ⟨b29, gq29⟩ : ∃ z, z = h26.size := ⟨_, rfl⟩
      rw [← gq29] at A29 D29 st29
      have sn29 : Safe Z consts_1 s.vm h26 b29 := Safe.new (Nat.le_of_eq gq29.symm)
      have C30 : CHr Z consts_1 s.vm h0 s.vm h29 := CHr.trans C27 (CHr.ext E29 C27.1)
      have sf31 : Safe Z consts_1 s.vm h29 b29 := Safe.ext E29 C27.1 sn29
      have f32 : Fld Z h29 b29 "java/lang/String" "value" "[B" .null := D29 (Or.inr (w26 hw)) (ty := (.array .byte)) (by decide)
      have f33 : Fld Z h29 b29 "java/lang/String" "coder" "B" (.int 0) := D29 (Or.inr (w27 hw)) (ty := .byte) (by decide)
      refine go_st (fun t k => st29 t k) ?_
      show Go _ _ _ _ (T29.setTop (mkF m 57 #[iv pk, iv (((pk &&& (255 : Int32))).toUInt32.toUInt16.toUInt32.toInt32), iv (((((pk).toUInt32 >>> ((8 : Int32) &&& 31).toUInt32).toInt32 &&& (255 : Int32))).toUInt32.toUInt16.toUInt32.toInt32), iv (((pk).toUInt32 >>> ((16 : Int32) &&& 31).toUInt32).toInt32 &&& (3 : Int32)), rv b23] [(.ref b29)]))
      refine go_st (fun t k => XS.dup X29.here hx rfl (hb hby d13_57) rfl rfl k) ?_
      show Go _ _ _ _ (T29.setTop (mkF m 58 #[iv pk, iv (((pk &&& (255 : Int32))).toUInt32.toUInt16.toUInt32.toInt32), iv (((((pk).toUInt32 >>> ((8 : Int32) &&& 31).toUInt32).toInt32 &&& (255 : Int32))).toUInt32.toUInt16.toUInt32.toInt32), iv (((pk).toUInt32 >>> ((16 : Int32) &&& 31).toUInt32).toInt32 &&& (3 : Int32)), rv b23] [(.ref b29), (.ref b29)]))
      refine go_st (fun t k => XS.aload X29.here hx rfl (hb hby d13_58) rfl rfl k) ?_
      show Go _ _ _ _ (T29.setTop (mkF m 60 #[iv pk, iv (((pk &&& (255 : Int32))).toUInt32.toUInt16.toUInt32.toInt32), iv (((((pk).toUInt32 >>> ((8 : Int32) &&& 31).toUInt32).toInt32 &&& (255 : Int32))).toUInt32.toUInt16.toUInt32.toInt32), iv (((pk).toUInt32 >>> ((16 : Int32) &&& 31).toUInt32).toInt32 &&& (3 : Int32)), rv b23] [(.ref b23), (.ref b29), (.ref b29)]))
      have f34 : Arv Z h29 b23 kc23 .char (1 : Int32) [(.int (nar .char (((pk &&& (255 : Int32))).toUInt32.toUInt16.toUInt32.toInt32)))] (.int 0) := (f28.ext E29)
      have oe35 : Old Z n0 h23 := (Old.ext O0 E23)
      have oe36 : Old Z n0 h26 := (Old.wr oe35 W26 g_b23)
      have oe37 : Old Z n0 h29 := (Old.ext oe36 E29)
      have sz38 : h0.size ≤ h26.size := (Nat.le_trans E23.1 (Nat.le_of_eq W26.size.symm))
      have g_b29 : n0 ≤ b29 := Nat.le_trans (Nat.le_trans Z0 sz38) (Nat.le_of_eq gq29.symm)
      have sz39 : h0.size ≤ h29.size := (Nat.le_trans sz38 E29.1)
      obtain ⟨_, _, ⟨T40, L40, kk40, nn40⟩, -, X40, ⟨Lc40, hQ40, lq40, yq40, zq40⟩, st40⟩ := X29.specialBack hx (y := (⟨"java/lang/String", "<init>", "([C)V"⟩ : MethodName)) rfl hown (mvT hZ (w14 hw)) (mvT hZ (w15 hw)) (mvT hZ (w16 hw)) (by decide) (StrChars.Road.backV (W := 1) hZ (words_in str_words hw) (kI := 4) (w11 hw) (cs := ([(nar .char (((pk &&& (255 : Int32))).toUInt32.toUInt16.toUInt32.toInt32))] : List Int32)) (bs := ([(nar .char (((pk &&& (255 : Int32))).toUInt32.toUInt16.toUInt32.toInt32))] : List Int32).map (fun c => c.toInt8.toInt32)) (n := 1) g_b29 (Nat.le_trans Z0 sz39) A29 f32 f33 f34 (Sta.ext oe37.2 CS) CSn rfl rfl (by decide) (by decide) (chars_cons (and255_chars _) chars_nil) rfl (by decide) (by decide)) (g := (mkF m 60 #[iv pk, iv (((pk &&& (255 : Int32))).toUInt32.toUInt16.toUInt32.toInt32), iv (((((pk).toUInt32 >>> ((8 : Int32) &&& 31).toUInt32).toInt32 &&& (255 : Int32))).toUInt32.toUInt16.toUInt32.toInt32), iv (((pk).toUInt32 >>> ((16 : Int32) &&& 31).toUInt32).toInt32 &&& (3 : Int32)), rv b23] [(.ref b23), (.ref b29), (.ref b29)])) rfl (by rw [hml]; rfl) (Steps.refl _) (a := b29) (argsL := [(.ref b23)]) (rest := [(.ref b29)]) (lenOf pd_3 rfl) rfl (by show 2 * 0 + _ ≤ _; exact Nat.le_of_eq rfl) (hb hby d13_60) (fun _ _ => ⟨rfl, e29, (by decide : 2 + 1 ≤ _), (by decide : 5 + 1 ≤ _)⟩)
      dsimp only [Pt.U, Pt.locs, Pt.cells, Pt.slots] at X40 lq40 yq40 zq40 st40 hQ40
      subst lq40 yq40 zq40
      obtain ⟨h40, e40⟩ : ∃ z, T40.heap = z := ⟨_, rfl⟩
      rw [e40] at hQ40
      obtain ⟨rfl, N40q, K40, Es40, Cs40, t40, kb40, gt40, lt40, nt40, Vs40, As40⟩ := hQ40
      have N40 := Fr.app N26 N40q
      have C41 : CHr Z consts_1 s.vm h0 s.vm h40 := CHr.trans C30 (CHr.keep K40 (sfS sf31 sf0) C30.1)
      have sf42 : Safe Z consts_1 s.vm h40 b29 := (Safe.keep K40 (sfS sf31 sf0) C30.1 sf31)
      refine go_tr st40 ?_
      show Go _ _ _ _ (T40.setTop (mkF m 63 #[iv pk, iv (((pk &&& (255 : Int32))).toUInt32.toUInt16.toUInt32.toInt32), iv (((((pk).toUInt32 >>> ((8 : Int32) &&& 31).toUInt32).toInt32 &&& (255 : Int32))).toUInt32.toUInt16.toUInt32.toInt32), iv (((pk).toUInt32 >>> ((16 : Int32) &&& 31).toUInt32).toInt32 &&& (3 : Int32)), rv b23] [(.ref b29)]))
      have ke43 : Keep h0 h23 [] := (Keep.ext (Keep.refl h0 []) E23)
      have ke44 : Keep h0 h26 [] := (Keep.wr ke43 W26 (Or.inr (Nat.le_of_eq gq23.symm)))
      have ke45 : Keep h0 h29 [] := (Keep.ext ke44 E29)
      have ke46 : Keep h0 h40 [] := (Keep.trans ke45 K40 (allS (Or.inr (Nat.le_trans sz38 (Nat.le_of_eq gq29.symm))) all0))
      have sz47 : h0.size ≤ h40.size := (Nat.le_trans sz39 K40.1)
      obtain ⟨fs, hr, hrun, hended, hR⟩ := X40.leaveW hS0 (by rw [e40]; exact (Nat.le_trans hk0 sz47)) (v := some (.ref b29)) (fun h => by rw [Bd.returns] at h; cases h)
      refine ⟨_, _, ?_, hrun, hended, _, _, rfl, ?_, ?_, hR.1, hR.2.1, hR.2.2.1, hR.2.2.2.mono (by decide) (by decide)⟩
      · exact retOut X40 hx Bd.returns rfl (Or.inr (Or.inr (Or.inr (Or.inr ⟨rfl, rfl, rfl⟩)))) (hb hby d13_63) hr
      · show Q_str _ _ _ _ _ _ T40.heap _
        rw [e40]
        exact ⟨b29, rfl, N40, ke46, g_b29, (Nat.le_trans sz38 (Nat.le_of_eq gq29.symm)), Es40⟩
      · show CHr Z consts_1 s.vm s.heap T40.vm T40.heap
        rw [hh, e40]
        exact CHr.trans C41 (CHv.at X40 hZ (hEL hw) C41.1)
    · skip
      refine go_st (fun t k => XS.icmpYes X0.here hx rfl (pc0 := 41) (pc' := 64) rfl (hb hby d13_41) rfl (feq (hc22 : ¬ ((((pk).toUInt32 >>> ((16 : Int32) &&& 31).toUInt32).toInt32 &&& (3 : Int32)) = (1 : Int32)))).2 (by decide) (by decide) k) ?_
      show Go _ _ _ _ (s₁.setTop (mkF m 64 #[iv pk, iv (((pk &&& (255 : Int32))).toUInt32.toUInt16.toUInt32.toInt32), iv (((((pk).toUInt32 >>> ((8 : Int32) &&& 31).toUInt32).toInt32 &&& (255 : Int32))).toUInt32.toUInt16.toUInt32.toInt32), iv (((pk).toUInt32 >>> ((16 : Int32) &&& 31).toUInt32).toInt32 &&& (3 : Int32)), .unset] []))
      refine go_st (fun t k => XS.iconst X0.here hx rfl (hb hby d13_64) k) ?_
      show Go _ _ _ _ (s₁.setTop (mkF m 65 #[iv pk, iv (((pk &&& (255 : Int32))).toUInt32.toUInt16.toUInt32.toInt32), iv (((((pk).toUInt32 >>> ((8 : Int32) &&& 31).toUInt32).toInt32 &&& (255 : Int32))).toUInt32.toUInt16.toUInt32.toInt32), iv (((pk).toUInt32 >>> ((16 : Int32) &&& 31).toUInt32).toInt32 &&& (3 : Int32)), .unset] [(.int 2)]))
      obtain ⟨T48, h48, kc48, X48, e48, E48, A48, st48⟩ := newP X0 hx hZ (aty := .char) (w13 hw) e0 (g := (mkF m 65 #[iv pk, iv (((pk &&& (255 : Int32))).toUInt32.toUInt16.toUInt32.toInt32), iv (((((pk).toUInt32 >>> ((8 : Int32) &&& 31).toUInt32).toInt32 &&& (255 : Int32))).toUInt32.toUInt16.toUInt32.toInt32), iv (((pk).toUInt32 >>> ((16 : Int32) &&& 31).toUInt32).toInt32 &&& (3 : Int32)), .unset] [(.int 2)])) rfl (hb hby d13_65) rfl (by decide) (cap := 2) (by decide) (by decide) (by decide) (by decide)
      obtain ⟨b48, gq48⟩ : ∃ z, z = h0.size := ⟨_, rfl⟩
      rw [← gq48] at A48 st48
      have C49 : CHr Z consts_1 s.vm h0 s.vm h48 := CHr.trans C0 (CHr.ext E48 C0.1)
      have f50 : Arv Z h48 b48 kc48 .char (2 : Int32) [(.int 0), (.int 0)] (.int 0) := (Arv.new A48 (by decide)).pad (pad_rep [] (.int 0) 2)
      refine go_st (fun t k => st48 t k) ?_
      show Go _ _ _ _ (T48.setTop (mkF m 67 #[iv pk, iv (((pk &&& (255 : Int32))).toUInt32.toUInt16.toUInt32.toInt32), iv (((((pk).toUInt32 >>> ((8 : Int32) &&& 31).toUInt32).toInt32 &&& (255 : Int32))).toUInt32.toUInt16.toUInt32.toInt32), iv (((pk).toUInt32 >>> ((16 : Int32) &&& 31).toUInt32).toInt32 &&& (3 : Int32)), .unset] [(.ref b48)]))
      refine go_st (fun t k => XS.astore X48.here hx rfl (hb hby d13_67) rfl rfl (l' := #[iv pk, iv (((pk &&& (255 : Int32))).toUInt32.toUInt16.toUInt32.toInt32), iv (((((pk).toUInt32 >>> ((8 : Int32) &&& 31).toUInt32).toInt32 &&& (255 : Int32))).toUInt32.toUInt16.toUInt32.toInt32), iv (((pk).toUInt32 >>> ((16 : Int32) &&& 31).toUInt32).toInt32 &&& (3 : Int32)), rv b48]) rfl k) ?_
      show Go _ _ _ _ (T48.setTop (mkF m 69 #[iv pk, iv (((pk &&& (255 : Int32))).toUInt32.toUInt16.toUInt32.toInt32), iv (((((pk).toUInt32 >>> ((8 : Int32) &&& 31).toUInt32).toInt32 &&& (255 : Int32))).toUInt32.toUInt16.toUInt32.toInt32), iv (((pk).toUInt32 >>> ((16 : Int32) &&& 31).toUInt32).toInt32 &&& (3 : Int32)), rv b48] []))
      refine go_st (fun t k => XS.aload X48.here hx rfl (hb hby d13_69) rfl rfl k) ?_
      show Go _ _ _ _ (T48.setTop (mkF m 71 #[iv pk, iv (((pk &&& (255 : Int32))).toUInt32.toUInt16.toUInt32.toInt32), iv (((((pk).toUInt32 >>> ((8 : Int32) &&& 31).toUInt32).toInt32 &&& (255 : Int32))).toUInt32.toUInt16.toUInt32.toInt32), iv (((pk).toUInt32 >>> ((16 : Int32) &&& 31).toUInt32).toInt32 &&& (3 : Int32)), rv b48] [(.ref b48)]))
      refine go_st (fun t k => XS.iconst X48.here hx rfl (hb hby d13_71) k) ?_
      show Go _ _ _ _ (T48.setTop (mkF m 72 #[iv pk, iv (((pk &&& (255 : Int32))).toUInt32.toUInt16.toUInt32.toInt32), iv (((((pk).toUInt32 >>> ((8 : Int32) &&& 31).toUInt32).toInt32 &&& (255 : Int32))).toUInt32.toUInt16.toUInt32.toInt32), iv (((pk).toUInt32 >>> ((16 : Int32) &&& 31).toUInt32).toInt32 &&& (3 : Int32)), rv b48] [(.int 0), (.ref b48)]))
      refine go_st (fun t k => XS.iloadN X48.here hx rfl (hb hby d13_72) rfl k) ?_
      show Go _ _ _ _ (T48.setTop (mkF m 73 #[iv pk, iv (((pk &&& (255 : Int32))).toUInt32.toUInt16.toUInt32.toInt32), iv (((((pk).toUInt32 >>> ((8 : Int32) &&& 31).toUInt32).toInt32 &&& (255 : Int32))).toUInt32.toUInt16.toUInt32.toInt32), iv (((pk).toUInt32 >>> ((16 : Int32) &&& 31).toUInt32).toInt32 &&& (3 : Int32)), rv b48] [(.int (((pk &&& (255 : Int32))).toUInt32.toUInt16.toUInt32.toInt32)), (.int 0), (.ref b48)]))
      obtain ⟨zc51, zA51, zq51, zS51, zN51, zH51, zG51⟩ := id f50
      have hin51 : ¬ ((0 : Int32) < 0 ∨ zc51.slots.size ≤ ((0 : Int32)).toNatClampNeg) := inb_of zS51 ⟨by decide, by decide⟩
      obtain ⟨T51, h51, X51, e51, W51, st51⟩ := stC X48 hx hZ e48 zA51 (j := (0 : Int32)) hin51 (g := (mkF m 73 #[iv pk, iv (((pk &&& (255 : Int32))).toUInt32.toUInt16.toUInt32.toInt32), iv (((((pk).toUInt32 >>> ((8 : Int32) &&& 31).toUInt32).toInt32 &&& (255 : Int32))).toUInt32.toUInt16.toUInt32.toInt32), iv (((pk).toUInt32 >>> ((16 : Int32) &&& 31).toUInt32).toInt32 &&& (3 : Int32)), rv b48] [(.int (((pk &&& (255 : Int32))).toUInt32.toUInt16.toUInt32.toInt32)), (.int 0), (.ref b48)])) rfl rfl (hb hby d13_73)
      have g_b48 : n0 ≤ b48 := Nat.le_trans (Nat.le_trans Z0 (Nat.le_refl _)) (Nat.le_of_eq gq48.symm)
      have N51 := Fr.snoc X51 N0 g_b48
      have C52 : CHr Z consts_1 s.vm h0 s.vm h51 := CHr.trans C49 (CHr.wr W51 (Safe.arv hZ.alike f50 (by decide)) C49.1)
      have f53 : Arv Z h51 b48 kc48 .char (2 : Int32) [(.int (nar .char (((pk &&& (255 : Int32))).toUInt32.toUInt16.toUInt32.toInt32))), (.int 0)] (.int 0) := Arv.set zA51 zq51 zS51 zN51 zH51 zG51 (fits_nar_char _) W51 0 rfl (Nat.le_of_ble_eq_true rfl)
      refine go_st (fun t k => st51 t k) ?_
      show Go _ _ _ _ (T51.setTop (mkF m 74 #[iv pk, iv (((pk &&& (255 : Int32))).toUInt32.toUInt16.toUInt32.toInt32), iv (((((pk).toUInt32 >>> ((8 : Int32) &&& 31).toUInt32).toInt32 &&& (255 : Int32))).toUInt32.toUInt16.toUInt32.toInt32), iv (((pk).toUInt32 >>> ((16 : Int32) &&& 31).toUInt32).toInt32 &&& (3 : Int32)), rv b48] []))
      refine go_st (fun t k => XS.aload X51.here hx rfl (hb hby d13_74) rfl rfl k) ?_
      show Go _ _ _ _ (T51.setTop (mkF m 76 #[iv pk, iv (((pk &&& (255 : Int32))).toUInt32.toUInt16.toUInt32.toInt32), iv (((((pk).toUInt32 >>> ((8 : Int32) &&& 31).toUInt32).toInt32 &&& (255 : Int32))).toUInt32.toUInt16.toUInt32.toInt32), iv (((pk).toUInt32 >>> ((16 : Int32) &&& 31).toUInt32).toInt32 &&& (3 : Int32)), rv b48] [(.ref b48)]))
      refine go_st (fun t k => XS.iconst X51.here hx rfl (hb hby d13_76) k) ?_
      show Go _ _ _ _ (T51.setTop (mkF m 77 #[iv pk, iv (((pk &&& (255 : Int32))).toUInt32.toUInt16.toUInt32.toInt32), iv (((((pk).toUInt32 >>> ((8 : Int32) &&& 31).toUInt32).toInt32 &&& (255 : Int32))).toUInt32.toUInt16.toUInt32.toInt32), iv (((pk).toUInt32 >>> ((16 : Int32) &&& 31).toUInt32).toInt32 &&& (3 : Int32)), rv b48] [(.int 1), (.ref b48)]))
      refine go_st (fun t k => XS.iloadN X51.here hx rfl (hb hby d13_77) rfl k) ?_
      show Go _ _ _ _ (T51.setTop (mkF m 78 #[iv pk, iv (((pk &&& (255 : Int32))).toUInt32.toUInt16.toUInt32.toInt32), iv (((((pk).toUInt32 >>> ((8 : Int32) &&& 31).toUInt32).toInt32 &&& (255 : Int32))).toUInt32.toUInt16.toUInt32.toInt32), iv (((pk).toUInt32 >>> ((16 : Int32) &&& 31).toUInt32).toInt32 &&& (3 : Int32)), rv b48] [(.int (((((pk).toUInt32 >>> ((8 : Int32) &&& 31).toUInt32).toInt32 &&& (255 : Int32))).toUInt32.toUInt16.toUInt32.toInt32)), (.int 1), (.ref b48)]))
      obtain ⟨zc54, zA54, zq54, zS54, zN54, zH54, zG54⟩ := id f53
      have hin54 : ¬ ((1 : Int32) < 0 ∨ zc54.slots.size ≤ ((1 : Int32)).toNatClampNeg) := inb_of zS54 ⟨by decide, by decide⟩
      obtain ⟨T54, h54, X54, e54, W54, st54⟩ := stC X51 hx hZ e51 zA54 (j := (1 : Int32)) hin54 (g := (mkF m 78 #[iv pk, iv (((pk &&& (255 : Int32))).toUInt32.toUInt16.toUInt32.toInt32), iv (((((pk).toUInt32 >>> ((8 : Int32) &&& 31).toUInt32).toInt32 &&& (255 : Int32))).toUInt32.toUInt16.toUInt32.toInt32), iv (((pk).toUInt32 >>> ((16 : Int32) &&& 31).toUInt32).toInt32 &&& (3 : Int32)), rv b48] [(.int (((((pk).toUInt32 >>> ((8 : Int32) &&& 31).toUInt32).toInt32 &&& (255 : Int32))).toUInt32.toUInt16.toUInt32.toInt32)), (.int 1), (.ref b48)])) rfl rfl (hb hby d13_78)
      have N54 := Fr.snoc X54 N51 g_b48
      have C55 : CHr Z consts_1 s.vm h0 s.vm h54 := CHr.trans C52 (CHr.wr W54 (Safe.arv hZ.alike f53 (by decide)) C52.1)
      have f56 : Arv Z h54 b48 kc48 .char (2 : Int32) [(.int (nar .char (((pk &&& (255 : Int32))).toUInt32.toUInt16.toUInt32.toInt32))), (.int (nar .char (((((pk).toUInt32 >>> ((8 : Int32) &&& 31).toUInt32).toInt32 &&& (255 : Int32))).toUInt32.toUInt16.toUInt32.toInt32)))] (.int 0) := Arv.set zA54 zq54 zS54 zN54 zH54 zG54 (fits_nar_char _) W54 1 rfl (Nat.le_of_ble_eq_true rfl)
      refine go_st (fun t k => st54 t k) ?_
      show Go _ _ _ _ (T54.setTop (mkF m 79 #[iv pk, iv (((pk &&& (255 : Int32))).toUInt32.toUInt16.toUInt32.toInt32), iv (((((pk).toUInt32 >>> ((8 : Int32) &&& 31).toUInt32).toInt32 &&& (255 : Int32))).toUInt32.toUInt16.toUInt32.toInt32), iv (((pk).toUInt32 >>> ((16 : Int32) &&& 31).toUInt32).toInt32 &&& (3 : Int32)), rv b48] []))
      obtain ⟨T57, h57, X57, e57, E57, A57, D57, -, st57⟩ := newO X54 hx hZ hown (w10 hw) (w11 hw) (w12 hw) e54 (g := (mkF m 79 #[iv pk, iv (((pk &&& (255 : Int32))).toUInt32.toUInt16.toUInt32.toInt32), iv (((((pk).toUInt32 >>> ((8 : Int32) &&& 31).toUInt32).toInt32 &&& (255 : Int32))).toUInt32.toUInt16.toUInt32.toInt32), iv (((pk).toUInt32 >>> ((16 : Int32) &&& 31).toUInt32).toInt32 &&& (3 : Int32)), rv b48] [])) rfl (hb hby d13_79) (by decide) (by decide)
      obtain ⟨b57, gq57⟩ : ∃ z, z = h54.size := ⟨_, rfl⟩
      rw [← gq57] at A57 D57 st57
      have sn57 : Safe Z consts_1 s.vm h54 b57 := Safe.new (Nat.le_of_eq gq57.symm)
      have C58 : CHr Z consts_1 s.vm h0 s.vm h57 := CHr.trans C55 (CHr.ext E57 C55.1)
      have sf59 : Safe Z consts_1 s.vm h57 b57 := Safe.ext E57 C55.1 sn57
      have f60 : Fld Z h57 b57 "java/lang/String" "value" "[B" .null := D57 (Or.inr (w26 hw)) (ty := (.array .byte)) (by decide)
      have f61 : Fld Z h57 b57 "java/lang/String" "coder" "B" (.int 0) := D57 (Or.inr (w27 hw)) (ty := .byte) (by decide)
      refine go_st (fun t k => st57 t k) ?_
      show Go _ _ _ _ (T57.setTop (mkF m 82 #[iv pk, iv (((pk &&& (255 : Int32))).toUInt32.toUInt16.toUInt32.toInt32), iv (((((pk).toUInt32 >>> ((8 : Int32) &&& 31).toUInt32).toInt32 &&& (255 : Int32))).toUInt32.toUInt16.toUInt32.toInt32), iv (((pk).toUInt32 >>> ((16 : Int32) &&& 31).toUInt32).toInt32 &&& (3 : Int32)), rv b48] [(.ref b57)]))
      refine go_st (fun t k => XS.dup X57.here hx rfl (hb hby d13_82) rfl rfl k) ?_
      show Go _ _ _ _ (T57.setTop (mkF m 83 #[iv pk, iv (((pk &&& (255 : Int32))).toUInt32.toUInt16.toUInt32.toInt32), iv (((((pk).toUInt32 >>> ((8 : Int32) &&& 31).toUInt32).toInt32 &&& (255 : Int32))).toUInt32.toUInt16.toUInt32.toInt32), iv (((pk).toUInt32 >>> ((16 : Int32) &&& 31).toUInt32).toInt32 &&& (3 : Int32)), rv b48] [(.ref b57), (.ref b57)]))
      refine go_st (fun t k => XS.aload X57.here hx rfl (hb hby d13_83) rfl rfl k) ?_
      show Go _ _ _ _ (T57.setTop (mkF m 85 #[iv pk, iv (((pk &&& (255 : Int32))).toUInt32.toUInt16.toUInt32.toInt32), iv (((((pk).toUInt32 >>> ((8 : Int32) &&& 31).toUInt32).toInt32 &&& (255 : Int32))).toUInt32.toUInt16.toUInt32.toInt32), iv (((pk).toUInt32 >>> ((16 : Int32) &&& 31).toUInt32).toInt32 &&& (3 : Int32)), rv b48] [(.ref b48), (.ref b57), (.ref b57)]))
      have f62 : Arv Z h57 b48 kc48 .char (2 : Int32) [(.int (nar .char (((pk &&& (255 : Int32))).toUInt32.toUInt16.toUInt32.toInt32))), (.int (nar .char (((((pk).toUInt32 >>> ((8 : Int32) &&& 31).toUInt32).toInt32 &&& (255 : Int32))).toUInt32.toUInt16.toUInt32.toInt32)))] (.int 0) := (f56.ext E57)
      have oe63 : Old Z n0 h48 := (Old.ext O0 E48)
      have oe64 : Old Z n0 h51 := (Old.wr oe63 W51 g_b48)
      have oe65 : Old Z n0 h54 := (Old.wr oe64 W54 g_b48)
      have oe66 : Old Z n0 h57 := (Old.ext oe65 E57)
      have sz67 : h0.size ≤ h51.size := (Nat.le_trans E48.1 (Nat.le_of_eq W51.size.symm))
      have sz68 : h0.size ≤ h54.size := (Nat.le_trans sz67 (Nat.le_of_eq W54.size.symm))
      have g_b57 : n0 ≤ b57 := Nat.le_trans (Nat.le_trans Z0 sz68) (Nat.le_of_eq gq57.symm)
      have sz69 : h0.size ≤ h57.size := (Nat.le_trans sz68 E57.1)
      obtain ⟨_, _, ⟨T70, L70, kk70, nn70⟩, -, X70, ⟨Lc70, hQ70, lq70, yq70, zq70⟩, st70⟩ := X57.specialBack hx (y := (⟨"java/lang/String", "<init>", "([C)V"⟩ : MethodName)) rfl hown (mvT hZ (w14 hw)) (mvT hZ (w15 hw)) (mvT hZ (w16 hw)) (by decide) (StrChars.Road.backV (W := 1) hZ (words_in str_words hw) (kI := 4) (w11 hw) (cs := ([(nar .char (((pk &&& (255 : Int32))).toUInt32.toUInt16.toUInt32.toInt32)), (nar .char (((((pk).toUInt32 >>> ((8 : Int32) &&& 31).toUInt32).toInt32 &&& (255 : Int32))).toUInt32.toUInt16.toUInt32.toInt32))] : List Int32)) (bs := ([(nar .char (((pk &&& (255 : Int32))).toUInt32.toUInt16.toUInt32.toInt32)), (nar .char (((((pk).toUInt32 >>> ((8 : Int32) &&& 31).toUInt32).toInt32 &&& (255 : Int32))).toUInt32.toUInt16.toUInt32.toInt32))] : List Int32).map (fun c => c.toInt8.toInt32)) (n := 2) g_b57 (Nat.le_trans Z0 sz69) A57 f60 f61 f62 (Sta.ext oe66.2 CS) CSn rfl rfl (by decide) (by decide) (chars_cons (and255_chars _) (chars_cons (and255_chars _) chars_nil)) rfl (by decide) (by decide)) (g := (mkF m 85 #[iv pk, iv (((pk &&& (255 : Int32))).toUInt32.toUInt16.toUInt32.toInt32), iv (((((pk).toUInt32 >>> ((8 : Int32) &&& 31).toUInt32).toInt32 &&& (255 : Int32))).toUInt32.toUInt16.toUInt32.toInt32), iv (((pk).toUInt32 >>> ((16 : Int32) &&& 31).toUInt32).toInt32 &&& (3 : Int32)), rv b48] [(.ref b48), (.ref b57), (.ref b57)])) rfl (by rw [hml]; rfl) (Steps.refl _) (a := b57) (argsL := [(.ref b48)]) (rest := [(.ref b57)]) (lenOf pd_3 rfl) rfl (by show 2 * 0 + _ ≤ _; exact Nat.le_of_eq rfl) (hb hby d13_85) (fun _ _ => ⟨rfl, e57, (by decide : 2 + 1 ≤ _), (by decide : 6 + 2 ≤ _)⟩)
      dsimp only [Pt.U, Pt.locs, Pt.cells, Pt.slots] at X70 lq70 yq70 zq70 st70 hQ70
      subst lq70 yq70 zq70
      obtain ⟨h70, e70⟩ : ∃ z, T70.heap = z := ⟨_, rfl⟩
      rw [e70] at hQ70
      obtain ⟨rfl, N70q, K70, Es70, Cs70, t70, kb70, gt70, lt70, nt70, Vs70, As70⟩ := hQ70
      have N70 := Fr.app N54 N70q
      have C71 : CHr Z consts_1 s.vm h0 s.vm h70 := CHr.trans C58 (CHr.keep K70 (sfS sf59 sf0) C58.1)
      have sf72 : Safe Z consts_1 s.vm h70 b57 := (Safe.keep K70 (sfS sf59 sf0) C58.1 sf59)
      refine go_tr st70 ?_
      show Go _ _ _ _ (T70.setTop (mkF m 88 #[iv pk, iv (((pk &&& (255 : Int32))).toUInt32.toUInt16.toUInt32.toInt32), iv (((((pk).toUInt32 >>> ((8 : Int32) &&& 31).toUInt32).toInt32 &&& (255 : Int32))).toUInt32.toUInt16.toUInt32.toInt32), iv (((pk).toUInt32 >>> ((16 : Int32) &&& 31).toUInt32).toInt32 &&& (3 : Int32)), rv b48] [(.ref b57)]))
      have ke73 : Keep h0 h48 [] := (Keep.ext (Keep.refl h0 []) E48)
      have ke74 : Keep h0 h51 [] := (Keep.wr ke73 W51 (Or.inr (Nat.le_of_eq gq48.symm)))
      have ke75 : Keep h0 h54 [] := (Keep.wr ke74 W54 (Or.inr (Nat.le_of_eq gq48.symm)))
      have ke76 : Keep h0 h57 [] := (Keep.ext ke75 E57)
      have ke77 : Keep h0 h70 [] := (Keep.trans ke76 K70 (allS (Or.inr (Nat.le_trans sz68 (Nat.le_of_eq gq57.symm))) all0))
      have sz78 : h0.size ≤ h70.size := (Nat.le_trans sz69 K70.1)
      obtain ⟨fs, hr, hrun, hended, hR⟩ := X70.leaveW hS0 (by rw [e70]; exact (Nat.le_trans hk0 sz78)) (v := some (.ref b57)) (fun h => by rw [Bd.returns] at h; cases h)
      refine ⟨_, _, ?_, hrun, hended, _, _, rfl, ?_, ?_, hR.1, hR.2.1, hR.2.2.1, hR.2.2.2.mono (by decide) (by decide)⟩
      · exact retOut X70 hx Bd.returns rfl (Or.inr (Or.inr (Or.inr (Or.inr ⟨rfl, rfl, rfl⟩)))) (hb hby d13_88) hr
      · show Q_str _ _ _ _ _ _ T70.heap _
        rw [e70]
        exact ⟨b57, rfl, N70, ke77, g_b57, (Nat.le_trans sz68 (Nat.le_of_eq gq57.symm)), Es70⟩
      · show CHr Z consts_1 s.vm s.heap T70.vm T70.heap
        rw [hh, e70]
        exact CHr.trans C71 (CHv.at X70 hZ (hEL hw) C71.1)
def Q_law (Z : State) (p0 : Int32) (p1 : Int32) (p2 : Int32) (p3 : Int32) (p4 : Int32) (G1 : Int32) (g0 : Addr) (g1 : Addr) (g2 : Addr) (g3 : Addr) (g4 : Addr) (h0 : Heap) (n0 : Nat) (vR : Option Value) (h : Heap) (L : List Loc) : Prop := vR = some (.int 1) ∧ Fr n0 L ∧ Keep h0 h []
theorem ef_law (m : MethodId) (x0 : Int32) (x1 : Int32) (x2 : Int32) (x3 : Int32) (x4 : Int32) : entryFrame m #[(.int x0), (.int x1), (.int x2), (.int x3), (.int x4)] maxLocals = mkF m 0 #[.val (.int x0), .val (.int x1), .val (.int x2), .val (.int x3), .val (.int x4), .unset, .unset, .unset, .unset, .unset, .unset, .unset, .unset, .unset, .unset] [] := by first | (simp [entryFrame, mkF, argsToLocals, Value.category, maxLocals]; done) | rfl
set_option maxRecDepth 65536 in
set_option maxHeartbeats 40000000 in
theorem rm_law (l : Launch) (Z : State) (a0 : Array Value) (hw : ∀ d ∈ tables_1, d.before a0 Z = true) (ws : List Jvm.Cond) (p0 : Int32) (p1 : Int32) (p2 : Int32) (p3 : Int32) (p4 : Int32) (G1 : Int32) (g0 : Addr) (g1 : Addr) (g2 : Addr) (g3 : Addr) (g4 : Addr) (h0 : Heap) (n0 : Nat) (Z0 : n0 ≤ h0.size) (CS : Sta Z Z.heap "java/lang/String" "COMPACT_STRINGS" "Z" (.int G1)) (CSn : ¬ (G1 = (0 : Int32))) (GS0 : Sta Z Z.heap "com/example/tuplet/tuplet/Commands$Kind" "FLAG" "Lcom/example/tuplet/tuplet/Commands$Kind;" (.ref g0)) (GS1 : Sta Z Z.heap "com/example/tuplet/tuplet/Commands$Kind" "TEXT" "Lcom/example/tuplet/tuplet/Commands$Kind;" (.ref g1)) (GS2 : Sta Z Z.heap "com/example/tuplet/tuplet/Commands$Kind" "INTEGER" "Lcom/example/tuplet/tuplet/Commands$Kind;" (.ref g2)) (GS3 : Sta Z Z.heap "com/example/tuplet/tuplet/Commands$Kind" "PATH" "Lcom/example/tuplet/tuplet/Commands$Kind;" (.ref g3)) (GS4 : Sta Z Z.heap "com/example/tuplet/tuplet/Commands$Kind" "LIST" "Lcom/example/tuplet/tuplet/Commands$Kind;" (.ref g4)) (O0 : Old Z n0 h0) :
    MetFree l x (head1 (Jvm.Cond.code x code maxLocals ret :: ws) room_1) (fun a U => a = #[(.int p0), (.int p1), (.int p2), (.int p3), (.int p4)] ∧ Z.Warmed39 U.vm ∧ U.heap = h0 ∧ CHv Z consts_1 U.vm h0) (fun _ _ _ _ _ => True) (fun _ U o U' => ∃ v L, o = .returned v ∧ Q_law Z p0 p1 p2 p3 p4 G1 g0 g1 g2 g3 g4 h0 n0 v U'.heap L ∧ CHr Z consts_1 U.vm U.heap U'.vm U'.heap ∧ ReturnedEndW U o U' L room_1.cells room_1.slots) := by
  refine MetFree.of_bodySF (plainFor_of_name pn_com_example_tuplet_tuplet_OptionAsRequiredPinLaw) hisR ?_
  intro p e s m args below meth c s₁ Bd hml0 hP hK
  obtain ⟨rfl, hZs, hh, HC0⟩ := hP
  have hx := Bd.exec
  have hby := Bd.bytes
  have hml : c.maxLocals = 15 := hml0
  have hZ : Z.Warmed39 (s.setVm s.vm).vm := hZs
  have hown : (s.setVm s.vm).vm.findClass "com/example/tuplet/tuplet/OptionAsRequiredPinLaw" = some m.cls := findClass_of_methodNamed Bd.named
  have hnm := (name_of_methodNamed Bd.named Bd.method).1
  have X0 : Stand p l e room_1 (s.setVm s.vm) m #[(.int p0), (.int p1), (.int p2), (.int p3), (.int p4)] below meth c s₁ [] 0 0 := Stand.of_body Bd
  have e0 : s₁.heap = h0 := by rw [← hh, Bd.state]; rfl
  have N0 := Fr.nil n0
  have hS0 : s.Since s.vm s.heap.size := (State.WarmedH.refl s).since _
  have hk0 : s.heap.size ≤ h0.size := Nat.le_of_eq (congrArg Array.size hh)
  have C0 : CHr Z consts_1 s.vm h0 s.vm h0 := CHr.refl HC0
  refine go_st (fun t k => castTop (ef_law m p0 p1 p2 p3 p4) k) ?_
  show Go _ _ _ _ (s₁.setTop (mkF m 0 #[iv p0, iv p1, iv p2, iv p3, iv p4, .unset, .unset, .unset, .unset, .unset, .unset, .unset, .unset, .unset, .unset] []))
  refine go_st (fun t k => XS.iloadN X0.here hx rfl (hb hby at_0) rfl k) ?_
  show Go _ _ _ _ (s₁.setTop (mkF m 1 #[iv p0, iv p1, iv p2, iv p3, iv p4, .unset, .unset, .unset, .unset, .unset, .unset, .unset, .unset, .unset, .unset] [(.int p0)]))
  refine go_st (fun t k => XS.bipush X0.here hx rfl (hb hby at_1) k) ?_
  show Go _ _ _ _ (s₁.setTop (mkF m 3 #[iv p0, iv p1, iv p2, iv p3, iv p4, .unset, .unset, .unset, .unset, .unset, .unset, .unset, .unset, .unset, .unset] [(.int 7), (.int p0)]))
  refine go_st (fun t k => XS.iand X0.here hx rfl (hb hby at_3) rfl k) ?_
  show Go _ _ _ _ (s₁.setTop (mkF m 4 #[iv p0, iv p1, iv p2, iv p3, iv p4, .unset, .unset, .unset, .unset, .unset, .unset, .unset, .unset, .unset, .unset] [(.int (p0 &&& (7 : Int32)))]))
  obtain ⟨_, _, ⟨T1, L1, kk1, nn1⟩, -, X1, ⟨Lc1, hQ1, lq1, yq1, zq1⟩, st1⟩ := Jvm.LawKit.callS X0 hx (y := (⟨"com/example/tuplet/tuplet/OptionAsRequiredPinLaw", "kindOf", "(I)Lcom/example/tuplet/tuplet/Commands$Kind;"⟩ : MethodName)) hown (mvT hZ (w0 hw)) (mvT hZ (w1 hw)) (mvT hZ (w2 hw)) (mvT hZ (w3 hw)) (by decide) (backOf (W := 0) (rm_kindOf l Z a0 hw [] (p0 &&& (7 : Int32)) g0 g1 g2 g3 g4 h0 n0 (Nat.le_trans Z0 (Nat.le_refl _)) GS0 GS1 GS2 GS3 GS4 O0) hZ (w3 hw) (w2 hw) (by decide) (by decide)) (g := (mkF m 4 #[iv p0, iv p1, iv p2, iv p3, iv p4, .unset, .unset, .unset, .unset, .unset, .unset, .unset, .unset, .unset, .unset] [(.int (p0 &&& (7 : Int32)))])) rfl (by rw [hml]; rfl) (argsL := [(.int (p0 &&& (7 : Int32)))]) (rest := []) (lenOf pd_4 rfl) rfl (by show 2 * 0 + _ ≤ _; exact Nat.le_of_eq rfl) (hb hby at_4) (fun _ _ => ⟨rfl, e0, (by decide : 0 + 0 ≤ _), (by decide : 0 + 0 ≤ _)⟩)
  dsimp only [Pt.U, Pt.locs, Pt.cells, Pt.slots] at X1 lq1 yq1 zq1 st1 hQ1
  subst lq1 yq1 zq1
  obtain ⟨h1, e1⟩ : ∃ z, T1.heap = z := ⟨_, rfl⟩
  rw [e1] at hQ1
  obtain ⟨g_1, rfl, N1q, he1⟩ := hQ1
  have N1 := Fr.app N0 N1q
  rw [he1] at e1
  refine go_st st1 ?_
  show Go _ _ _ _ (T1.setTop (mkF m 7 #[iv p0, iv p1, iv p2, iv p3, iv p4, .unset, .unset, .unset, .unset, .unset, .unset, .unset, .unset, .unset, .unset] [(.ref g_1)]))
  refine go_st (fun t k => XS.astore X1.here hx rfl (hb hby at_7) rfl rfl (l' := #[iv p0, iv p1, iv p2, iv p3, iv p4, rv g_1, .unset, .unset, .unset, .unset, .unset, .unset, .unset, .unset, .unset]) rfl k) ?_
  show Go _ _ _ _ (T1.setTop (mkF m 9 #[iv p0, iv p1, iv p2, iv p3, iv p4, rv g_1, .unset, .unset, .unset, .unset, .unset, .unset, .unset, .unset, .unset] []))
  refine go_st (fun t k => XS.iloadN X1.here hx rfl (hb hby at_9) rfl k) ?_
  show Go _ _ _ _ (T1.setTop (mkF m 10 #[iv p0, iv p1, iv p2, iv p3, iv p4, rv g_1, .unset, .unset, .unset, .unset, .unset, .unset, .unset, .unset, .unset] [(.int p0)]))
  refine go_st (fun t k => XS.iconst X1.here hx rfl (hb hby at_10) k) ?_
  show Go _ _ _ _ (T1.setTop (mkF m 11 #[iv p0, iv p1, iv p2, iv p3, iv p4, rv g_1, .unset, .unset, .unset, .unset, .unset, .unset, .unset, .unset, .unset] [(.int 3), (.int p0)]))
  refine go_st (fun t k => XS.iushr X1.here hx rfl (hb hby at_11) rfl k) ?_
  show Go _ _ _ _ (T1.setTop (mkF m 12 #[iv p0, iv p1, iv p2, iv p3, iv p4, rv g_1, .unset, .unset, .unset, .unset, .unset, .unset, .unset, .unset, .unset] [(.int ((p0).toUInt32 >>> ((3 : Int32) &&& 31).toUInt32).toInt32)]))
  refine go_st (fun t k => XS.iconst X1.here hx rfl (hb hby at_12) k) ?_
  show Go _ _ _ _ (T1.setTop (mkF m 13 #[iv p0, iv p1, iv p2, iv p3, iv p4, rv g_1, .unset, .unset, .unset, .unset, .unset, .unset, .unset, .unset, .unset] [(.int 1), (.int ((p0).toUInt32 >>> ((3 : Int32) &&& 31).toUInt32).toInt32)]))
  refine go_st (fun t k => XS.iand X1.here hx rfl (hb hby at_13) rfl k) ?_
  show Go _ _ _ _ (T1.setTop (mkF m 14 #[iv p0, iv p1, iv p2, iv p3, iv p4, rv g_1, .unset, .unset, .unset, .unset, .unset, .unset, .unset, .unset, .unset] [(.int (((p0).toUInt32 >>> ((3 : Int32) &&& 31).toUInt32).toInt32 &&& (1 : Int32)))]))
  by_cases hc2 : (((p0).toUInt32 >>> ((3 : Int32) &&& 31).toUInt32).toInt32 &&& (1 : Int32)) = (0 : Int32)
  · skip
    refine go_st (fun t k => XS.ifYes X1.here hx rfl (pc0 := 14) (pc' := 21) rfl (hb hby at_14) rfl ((if0 _ _).trans (teq (hc2 : (((p0).toUInt32 >>> ((3 : Int32) &&& 31).toUInt32).toInt32 &&& (1 : Int32)) = (0 : Int32))).1) (by decide) (by decide) k) ?_
    show Go _ _ _ _ (T1.setTop (mkF m 21 #[iv p0, iv p1, iv p2, iv p3, iv p4, rv g_1, .unset, .unset, .unset, .unset, .unset, .unset, .unset, .unset, .unset] []))
    refine go_st (fun t k => XS.iconst X1.here hx rfl (hb hby at_21) k) ?_
    show Go _ _ _ _ (T1.setTop (mkF m 22 #[iv p0, iv p1, iv p2, iv p3, iv p4, rv g_1, .unset, .unset, .unset, .unset, .unset, .unset, .unset, .unset, .unset] [(.int 0)]))
    refine go_st (fun t k => XS.istore X1.here hx rfl (hb hby at_22) rfl (l' := #[iv p0, iv p1, iv p2, iv p3, iv p4, rv g_1, iv 0, .unset, .unset, .unset, .unset, .unset, .unset, .unset, .unset]) rfl k) ?_
    show Go _ _ _ _ (T1.setTop (mkF m 24 #[iv p0, iv p1, iv p2, iv p3, iv p4, rv g_1, iv 0, .unset, .unset, .unset, .unset, .unset, .unset, .unset, .unset] []))
    refine go_st (fun t k => XS.iloadN X1.here hx rfl (hb hby at_24) rfl k) ?_
    show Go _ _ _ _ (T1.setTop (mkF m 25 #[iv p0, iv p1, iv p2, iv p3, iv p4, rv g_1, iv 0, .unset, .unset, .unset, .unset, .unset, .unset, .unset, .unset] [(.int p0)]))
    refine go_st (fun t k => XS.iconst X1.here hx rfl (hb hby at_25) k) ?_
    show Go _ _ _ _ (T1.setTop (mkF m 26 #[iv p0, iv p1, iv p2, iv p3, iv p4, rv g_1, iv 0, .unset, .unset, .unset, .unset, .unset, .unset, .unset, .unset] [(.int 4), (.int p0)]))
    refine go_st (fun t k => XS.iushr X1.here hx rfl (hb hby at_26) rfl k) ?_
    show Go _ _ _ _ (T1.setTop (mkF m 27 #[iv p0, iv p1, iv p2, iv p3, iv p4, rv g_1, iv 0, .unset, .unset, .unset, .unset, .unset, .unset, .unset, .unset] [(.int ((p0).toUInt32 >>> ((4 : Int32) &&& 31).toUInt32).toInt32)]))
    refine go_st (fun t k => XS.iconst X1.here hx rfl (hb hby at_27) k) ?_
    show Go _ _ _ _ (T1.setTop (mkF m 28 #[iv p0, iv p1, iv p2, iv p3, iv p4, rv g_1, iv 0, .unset, .unset, .unset, .unset, .unset, .unset, .unset, .unset] [(.int 1), (.int ((p0).toUInt32 >>> ((4 : Int32) &&& 31).toUInt32).toInt32)]))
    refine go_st (fun t k => XS.iand X1.here hx rfl (hb hby at_28) rfl k) ?_
    show Go _ _ _ _ (T1.setTop (mkF m 29 #[iv p0, iv p1, iv p2, iv p3, iv p4, rv g_1, iv 0, .unset, .unset, .unset, .unset, .unset, .unset, .unset, .unset] [(.int (((p0).toUInt32 >>> ((4 : Int32) &&& 31).toUInt32).toInt32 &&& (1 : Int32)))]))
    by_cases hc3 : (((p0).toUInt32 >>> ((4 : Int32) &&& 31).toUInt32).toInt32 &&& (1 : Int32)) = (0 : Int32)
    · skip
      refine go_st (fun t k => XS.ifYes X1.here hx rfl (pc0 := 29) (pc' := 36) rfl (hb hby at_29) rfl ((if0 _ _).trans (teq (hc3 : (((p0).toUInt32 >>> ((4 : Int32) &&& 31).toUInt32).toInt32 &&& (1 : Int32)) = (0 : Int32))).1) (by decide) (by decide) k) ?_
      show Go _ _ _ _ (T1.setTop (mkF m 36 #[iv p0, iv p1, iv p2, iv p3, iv p4, rv g_1, iv 0, .unset, .unset, .unset, .unset, .unset, .unset, .unset, .unset] []))
      refine go_st (fun t k => XS.iconst X1.here hx rfl (hb hby at_36) k) ?_
      show Go _ _ _ _ (T1.setTop (mkF m 37 #[iv p0, iv p1, iv p2, iv p3, iv p4, rv g_1, iv 0, .unset, .unset, .unset, .unset, .unset, .unset, .unset, .unset] [(.int 0)]))
      refine go_st (fun t k => XS.istore X1.here hx rfl (hb hby at_37) rfl (l' := #[iv p0, iv p1, iv p2, iv p3, iv p4, rv g_1, iv 0, iv 0, .unset, .unset, .unset, .unset, .unset, .unset, .unset]) rfl k) ?_
      show Go _ _ _ _ (T1.setTop (mkF m 39 #[iv p0, iv p1, iv p2, iv p3, iv p4, rv g_1, iv 0, iv 0, .unset, .unset, .unset, .unset, .unset, .unset, .unset] []))
      refine go_st (fun t k => XS.iloadN X1.here hx rfl (hb hby at_39) rfl k) ?_
      show Go _ _ _ _ (T1.setTop (mkF m 40 #[iv p0, iv p1, iv p2, iv p3, iv p4, rv g_1, iv 0, iv 0, .unset, .unset, .unset, .unset, .unset, .unset, .unset] [(.int p1)]))
      obtain ⟨_, _, ⟨T4, L4, kk4, nn4⟩, -, X4, hs24, hg4, ⟨Lc4, hQ4, lq4, yq4, zq4, hC4⟩, st4⟩ := callSS X1 hx (y := (⟨"com/example/tuplet/tuplet/OptionAsRequiredPinLaw", "str", "(I)Ljava/lang/String;"⟩ : MethodName)) hown (mvT hZ (w7 hw)) (mvT hZ (w8 hw)) (mvT hZ (w2 hw)) (mvT hZ (w9 hw)) (by decide) (backOfSH (vm0 := s.vm) (W := 0) (rm_str l Z a0 hw [] p1 G1 h0 n0 (Nat.le_trans Z0 (Nat.le_refl _)) CS CSn O0) hZ (w9 hw) (w2 hw) (by decide) (by decide) (hEL hw) C0.1) (g := (mkF m 40 #[iv p0, iv p1, iv p2, iv p3, iv p4, rv g_1, iv 0, iv 0, .unset, .unset, .unset, .unset, .unset, .unset, .unset] [(.int p1)])) rfl (by rw [hml]; rfl) (argsL := [(.int p1)]) (rest := []) (lenOf pd_5 rfl) rfl (by show 2 * 0 + _ ≤ _; exact Nat.le_of_eq rfl) (hb hby at_40) (fun _ _ => ⟨rfl, e1, (by decide : 0 + 6 ≤ _), (by decide : 0 + 12 ≤ _)⟩)
      dsimp only [Pt.U, Pt.locs, Pt.cells, Pt.slots] at X4 hs24 hg4 lq4 yq4 zq4 st4 hQ4 hC4
      subst lq4 yq4 zq4
      rw [e1] at hg4
      obtain ⟨X4, hS4, hZ4, hown4⟩ := rebS (vm0 := s.vm) hS0 (Nat.le_trans hk0 (Nat.le_refl _)) X4 hs24 hg4 hZ hown
      obtain ⟨h4, e4⟩ : ∃ z, T4.heap = z := ⟨_, rfl⟩
      rw [e4] at hQ4 hg4 hC4 hS4
      obtain ⟨a_4, rfl, N4q, K4, gf4_0, lf4_0, p4_1⟩ := hQ4
      have N4 := Fr.app N1 N4q
      have C5 : CHr Z consts_1 s.vm h0 T4.vm h4 := CHr.trans C0 hC4
      refine go_tr st4 ?_
      show Go _ _ _ _ (T4.setTop (mkF m 43 #[iv p0, iv p1, iv p2, iv p3, iv p4, rv g_1, iv 0, iv 0, .unset, .unset, .unset, .unset, .unset, .unset, .unset] [(.ref a_4)]))
      refine go_st (fun t k => XS.astore X4.here hx rfl (hb hby at_43) rfl rfl (l' := #[iv p0, iv p1, iv p2, iv p3, iv p4, rv g_1, iv 0, iv 0, rv a_4, .unset, .unset, .unset, .unset, .unset, .unset]) rfl k) ?_
      show Go _ _ _ _ (T4.setTop (mkF m 45 #[iv p0, iv p1, iv p2, iv p3, iv p4, rv g_1, iv 0, iv 0, rv a_4, .unset, .unset, .unset, .unset, .unset, .unset] []))
      refine go_st (fun t k => XS.iloadN X4.here hx rfl (hb hby at_45) rfl k) ?_
      show Go _ _ _ _ (T4.setTop (mkF m 46 #[iv p0, iv p1, iv p2, iv p3, iv p4, rv g_1, iv 0, iv 0, rv a_4, .unset, .unset, .unset, .unset, .unset, .unset] [(.int p2)]))
      have oe6 : Old Z n0 h4 := (Old.keep O0 K4 all0)
      obtain ⟨_, _, ⟨T7, L7, kk7, nn7⟩, -, X7, hs27, hg7, ⟨Lc7, hQ7, lq7, yq7, zq7, hC7⟩, st7⟩ := callSS X4 hx (y := (⟨"com/example/tuplet/tuplet/OptionAsRequiredPinLaw", "str", "(I)Ljava/lang/String;"⟩ : MethodName)) hown4 (mvT hZ4 (w7 hw)) (mvT hZ4 (w8 hw)) (mvT hZ4 (w2 hw)) (mvT hZ4 (w9 hw)) (by decide) (backOfSH (vm0 := T4.vm) (W := 0) (rm_str l Z a0 hw [] p2 G1 h4 n0 (Nat.le_trans Z0 K4.1) CS CSn oe6) hZ4 (w9 hw) (w2 hw) (by decide) (by decide) (hEL hw) C5.1) (g := (mkF m 46 #[iv p0, iv p1, iv p2, iv p3, iv p4, rv g_1, iv 0, iv 0, rv a_4, .unset, .unset, .unset, .unset, .unset, .unset] [(.int p2)])) rfl (by rw [hml]; rfl) (argsL := [(.int p2)]) (rest := []) (lenOf pd_5 rfl) rfl (by show 2 * 0 + _ ≤ _; exact Nat.le_of_eq rfl) (hb hby at_46) (fun _ _ => ⟨rfl, e4, (by decide : 6 + 6 ≤ _), (by decide : 12 + 12 ≤ _)⟩)
      dsimp only [Pt.U, Pt.locs, Pt.cells, Pt.slots] at X7 hs27 hg7 lq7 yq7 zq7 st7 hQ7 hC7
      subst lq7 yq7 zq7
      rw [e4] at hg7
      obtain ⟨X7, hS7, hZ7, hown7⟩ := rebS (vm0 := T4.vm) hS4 (Nat.le_trans (Nat.le_refl _) (Nat.le_refl _)) X7 hs27 hg7 hZ4 hown4
      obtain ⟨h7, e7⟩ : ∃ z, T7.heap = z := ⟨_, rfl⟩
      rw [e7] at hQ7 hg7 hC7 hS7
      obtain ⟨a_7, rfl, N7q, K7, gf7_0, lf7_0, p7_1⟩ := hQ7
      have N7 := Fr.app N4 N7q
      have C8 : CHr Z consts_1 s.vm h0 T7.vm h7 := CHr.trans C5 hC7
      refine go_tr st7 ?_
      show Go _ _ _ _ (T7.setTop (mkF m 49 #[iv p0, iv p1, iv p2, iv p3, iv p4, rv g_1, iv 0, iv 0, rv a_4, .unset, .unset, .unset, .unset, .unset, .unset] [(.ref a_7)]))
      refine go_st (fun t k => XS.astore X7.here hx rfl (hb hby at_49) rfl rfl (l' := #[iv p0, iv p1, iv p2, iv p3, iv p4, rv g_1, iv 0, iv 0, rv a_4, rv a_7, .unset, .unset, .unset, .unset, .unset]) rfl k) ?_
      show Go _ _ _ _ (T7.setTop (mkF m 51 #[iv p0, iv p1, iv p2, iv p3, iv p4, rv g_1, iv 0, iv 0, rv a_4, rv a_7, .unset, .unset, .unset, .unset, .unset] []))
      refine go_st (fun t k => XS.iloadN X7.here hx rfl (hb hby at_51) rfl k) ?_
      show Go _ _ _ _ (T7.setTop (mkF m 52 #[iv p0, iv p1, iv p2, iv p3, iv p4, rv g_1, iv 0, iv 0, rv a_4, rv a_7, .unset, .unset, .unset, .unset, .unset] [(.int p3)]))
      have oe9 : Old Z n0 h7 := (Old.keep oe6 K7 all0)
      have sz10 : h0.size ≤ h7.size := (Nat.le_trans K4.1 K7.1)
      obtain ⟨_, _, ⟨T11, L11, kk11, nn11⟩, -, X11, hs211, hg11, ⟨Lc11, hQ11, lq11, yq11, zq11, hC11⟩, st11⟩ := callSS X7 hx (y := (⟨"com/example/tuplet/tuplet/OptionAsRequiredPinLaw", "str", "(I)Ljava/lang/String;"⟩ : MethodName)) hown7 (mvT hZ7 (w7 hw)) (mvT hZ7 (w8 hw)) (mvT hZ7 (w2 hw)) (mvT hZ7 (w9 hw)) (by decide) (backOfSH (vm0 := T7.vm) (W := 0) (rm_str l Z a0 hw [] p3 G1 h7 n0 (Nat.le_trans Z0 sz10) CS CSn oe9) hZ7 (w9 hw) (w2 hw) (by decide) (by decide) (hEL hw) C8.1) (g := (mkF m 52 #[iv p0, iv p1, iv p2, iv p3, iv p4, rv g_1, iv 0, iv 0, rv a_4, rv a_7, .unset, .unset, .unset, .unset, .unset] [(.int p3)])) rfl (by rw [hml]; rfl) (argsL := [(.int p3)]) (rest := []) (lenOf pd_5 rfl) rfl (by show 2 * 0 + _ ≤ _; exact Nat.le_of_eq rfl) (hb hby at_52) (fun _ _ => ⟨rfl, e7, (by decide : 12 + 6 ≤ _), (by decide : 24 + 12 ≤ _)⟩)
      dsimp only [Pt.U, Pt.locs, Pt.cells, Pt.slots] at X11 hs211 hg11 lq11 yq11 zq11 st11 hQ11 hC11
      subst lq11 yq11 zq11
      rw [e7] at hg11
      obtain ⟨X11, hS11, hZ11, hown11⟩ := rebS (vm0 := T7.vm) hS7 (Nat.le_trans (Nat.le_refl _) (Nat.le_refl _)) X11 hs211 hg11 hZ7 hown7
      obtain ⟨h11, e11⟩ : ∃ z, T11.heap = z := ⟨_, rfl⟩
      rw [e11] at hQ11 hg11 hC11 hS11
      obtain ⟨a_11, rfl, N11q, K11, gf11_0, lf11_0, p11_1⟩ := hQ11
      have N11 := Fr.app N7 N11q
      have C12 : CHr Z consts_1 s.vm h0 T11.vm h11 := CHr.trans C8 hC11
      refine go_tr st11 ?_
      show Go _ _ _ _ (T11.setTop (mkF m 55 #[iv p0, iv p1, iv p2, iv p3, iv p4, rv g_1, iv 0, iv 0, rv a_4, rv a_7, .unset, .unset, .unset, .unset, .unset] [(.ref a_11)]))
      refine go_st (fun t k => XS.astore X11.here hx rfl (hb hby at_55) rfl rfl (l' := #[iv p0, iv p1, iv p2, iv p3, iv p4, rv g_1, iv 0, iv 0, rv a_4, rv a_7, rv a_11, .unset, .unset, .unset, .unset]) rfl k) ?_
      show Go _ _ _ _ (T11.setTop (mkF m 57 #[iv p0, iv p1, iv p2, iv p3, iv p4, rv g_1, iv 0, iv 0, rv a_4, rv a_7, rv a_11, .unset, .unset, .unset, .unset] []))
      refine go_st (fun t k => XS.iload X11.here hx rfl (hb hby at_57) rfl k) ?_
      show Go _ _ _ _ (T11.setTop (mkF m 59 #[iv p0, iv p1, iv p2, iv p3, iv p4, rv g_1, iv 0, iv 0, rv a_4, rv a_7, rv a_11, .unset, .unset, .unset, .unset] [(.int 0)]))
      refine go_st (fun t k => XS.ifYes X11.here hx rfl (pc0 := 59) (pc' := 70) rfl (hb hby at_59) rfl ((if0 _ _).trans (teq ((by decide) : (0 : Int32) = (0 : Int32))).1) (by decide) (by decide) k) ?_
      show Go _ _ _ _ (T11.setTop (mkF m 70 #[iv p0, iv p1, iv p2, iv p3, iv p4, rv g_1, iv 0, iv 0, rv a_4, rv a_7, rv a_11, .unset, .unset, .unset, .unset] []))
      refine go_st (fun t k => XS.aconstNull X11.here hx rfl (hb hby at_70) k) ?_
      show Go _ _ _ _ (T11.setTop (mkF m 71 #[iv p0, iv p1, iv p2, iv p3, iv p4, rv g_1, iv 0, iv 0, rv a_4, rv a_7, rv a_11, .unset, .unset, .unset, .unset] [.null]))
      refine go_st (fun t k => XS.astore X11.here hx rfl (hb hby at_71) rfl rfl (l' := #[iv p0, iv p1, iv p2, iv p3, iv p4, rv g_1, iv 0, iv 0, rv a_4, rv a_7, rv a_11, .val .null, .unset, .unset, .unset]) rfl k) ?_
      show Go _ _ _ _ (T11.setTop (mkF m 73 #[iv p0, iv p1, iv p2, iv p3, iv p4, rv g_1, iv 0, iv 0, rv a_4, rv a_7, rv a_11, .val .null, .unset, .unset, .unset] []))
      obtain ⟨T13, h13, X13, e13, E13, A13, D13, -, st13⟩ := newO X11 hx hZ11 hown11 (w32 hw) (w33 hw) (w34 hw) e11 (g := (mkF m 73 #[iv p0, iv p1, iv p2, iv p3, iv p4, rv g_1, iv 0, iv 0, rv a_4, rv a_7, rv a_11, .val .null, .unset, .unset, .unset] [])) rfl (hb hby at_73) (by decide) (by decide)
      obtain ⟨b13, gq13⟩ : ∃ z, z = h11.size := ⟨_, rfl⟩
      rw [← gq13] at A13 D13 st13
      have C14 : CHr Z consts_1 s.vm h0 T11.vm h13 := CHr.trans C12 (CHr.ext E13 C12.1)
      have f15 : Fld Z h13 b13 "com/example/tuplet/tuplet/Commands$Option" "name" "Ljava/lang/String;" .null := D13 (Or.inr (w45 hw)) (ty := (.object "java/lang/String")) (by decide)
      have f16 : Fld Z h13 b13 "com/example/tuplet/tuplet/Commands$Option" "kind" "Lcom/example/tuplet/tuplet/Commands$Kind;" .null := D13 (Or.inr (w47 hw)) (ty := (.object "com/example/tuplet/tuplet/Commands$Kind")) (by decide)
      have f17 : Fld Z h13 b13 "com/example/tuplet/tuplet/Commands$Option" "label" "Ljava/lang/String;" .null := D13 (Or.inr (w49 hw)) (ty := (.object "java/lang/String")) (by decide)
      have f18 : Fld Z h13 b13 "com/example/tuplet/tuplet/Commands$Option" "help" "Ljava/lang/String;" .null := D13 (Or.inr (w51 hw)) (ty := (.object "java/lang/String")) (by decide)
      have f19 : Fld Z h13 b13 "com/example/tuplet/tuplet/Commands$Option" "required" "Z" (.int 0) := D13 (Or.inr (w53 hw)) (ty := .boolean) (by decide)
      have f20 : Fld Z h13 b13 "com/example/tuplet/tuplet/Commands$Option" "byDefault" "Ljava/lang/String;" .null := D13 (Or.inr (w55 hw)) (ty := (.object "java/lang/String")) (by decide)
      refine go_st (fun t k => st13 t k) ?_
      show Go _ _ _ _ (T13.setTop (mkF m 76 #[iv p0, iv p1, iv p2, iv p3, iv p4, rv g_1, iv 0, iv 0, rv a_4, rv a_7, rv a_11, .val .null, .unset, .unset, .unset] [(.ref b13)]))
      refine go_st (fun t k => XS.dup X13.here hx rfl (hb hby at_76) rfl rfl k) ?_
      show Go _ _ _ _ (T13.setTop (mkF m 77 #[iv p0, iv p1, iv p2, iv p3, iv p4, rv g_1, iv 0, iv 0, rv a_4, rv a_7, rv a_11, .val .null, .unset, .unset, .unset] [(.ref b13), (.ref b13)]))
      refine go_st (fun t k => XS.aload X13.here hx rfl (hb hby at_77) rfl rfl k) ?_
      show Go _ _ _ _ (T13.setTop (mkF m 79 #[iv p0, iv p1, iv p2, iv p3, iv p4, rv g_1, iv 0, iv 0, rv a_4, rv a_7, rv a_11, .val .null, .unset, .unset, .unset] [(.ref a_4), (.ref b13), (.ref b13)]))
      refine go_st (fun t k => XS.aload X13.here hx rfl (hb hby at_79) rfl rfl k) ?_
      show Go _ _ _ _ (T13.setTop (mkF m 81 #[iv p0, iv p1, iv p2, iv p3, iv p4, rv g_1, iv 0, iv 0, rv a_4, rv a_7, rv a_11, .val .null, .unset, .unset, .unset] [(.ref g_1), (.ref a_4), (.ref b13), (.ref b13)]))
      refine go_st (fun t k => XS.aload X13.here hx rfl (hb hby at_81) rfl rfl k) ?_
      show Go _ _ _ _ (T13.setTop (mkF m 83 #[iv p0, iv p1, iv p2, iv p3, iv p4, rv g_1, iv 0, iv 0, rv a_4, rv a_7, rv a_11, .val .null, .unset, .unset, .unset] [(.ref a_7), (.ref g_1), (.ref a_4), (.ref b13), (.ref b13)]))
      refine go_st (fun t k => XS.aload X13.here hx rfl (hb hby at_83) rfl rfl k) ?_
      show Go _ _ _ _ (T13.setTop (mkF m 85 #[iv p0, iv p1, iv p2, iv p3, iv p4, rv g_1, iv 0, iv 0, rv a_4, rv a_7, rv a_11, .val .null, .unset, .unset, .unset] [(.ref a_11), (.ref a_7), (.ref g_1), (.ref a_4), (.ref b13), (.ref b13)]))
      refine go_st (fun t k => XS.iload X13.here hx rfl (hb hby at_85) rfl k) ?_
      show Go _ _ _ _ (T13.setTop (mkF m 87 #[iv p0, iv p1, iv p2, iv p3, iv p4, rv g_1, iv 0, iv 0, rv a_4, rv a_7, rv a_11, .val .null, .unset, .unset, .unset] [(.int 0), (.ref a_11), (.ref a_7), (.ref g_1), (.ref a_4), (.ref b13), (.ref b13)]))
      refine go_st (fun t k => XS.aload X13.here hx rfl (hb hby at_87) rfl rfl k) ?_
      show Go _ _ _ _ (T13.setTop (mkF m 89 #[iv p0, iv p1, iv p2, iv p3, iv p4, rv g_1, iv 0, iv 0, rv a_4, rv a_7, rv a_11, .val .null, .unset, .unset, .unset] [.null, (.int 0), (.ref a_11), (.ref a_7), (.ref g_1), (.ref a_4), (.ref b13), (.ref b13)]))
      have sz21 : h0.size ≤ h11.size := (Nat.le_trans sz10 K11.1)
      have g_b13 : n0 ≤ b13 := Nat.le_trans (Nat.le_trans Z0 sz21) (Nat.le_of_eq gq13.symm)
      have sz22 : h0.size ≤ h13.size := (Nat.le_trans sz21 E13.1)
      obtain ⟨_, _, ⟨T23, L23, kk23, nn23⟩, -, X23, ⟨Lc23, hQ23, lq23, yq23, zq23⟩, st23⟩ := X13.specialBack hx (y := (⟨"com/example/tuplet/tuplet/Commands$Option", "<init>", "(Ljava/lang/String;Lcom/example/tuplet/tuplet/Commands$Kind;Ljava/lang/String;Ljava/lang/String;ZLjava/lang/String;)V"⟩ : MethodName)) rfl hown11 (mvT hZ11 (w35 hw)) (mvT hZ11 (w36 hw)) (mvT hZ11 (w37 hw)) (by decide) (backOf (W := 1) (rm_ctor0 l Z a0 hw [] b13 (.ref a_4) (.ref g_1) (.ref a_7) (.ref a_11) .null h13 n0 (Nat.le_trans Z0 sz22) A13 f15 f16 f17 f18 f19 f20 g_b13 rfl rfl rfl rfl rfl) hZ11 (w37 hw) (w34 hw) (by decide) (by decide)) (g := (mkF m 89 #[iv p0, iv p1, iv p2, iv p3, iv p4, rv g_1, iv 0, iv 0, rv a_4, rv a_7, rv a_11, .val .null, .unset, .unset, .unset] [.null, (.int 0), (.ref a_11), (.ref a_7), (.ref g_1), (.ref a_4), (.ref b13), (.ref b13)])) rfl (by rw [hml]; rfl) (Steps.refl _) (a := b13) (argsL := [(.ref a_4), (.ref g_1), (.ref a_7), (.ref a_11), (.int 0), .null]) (rest := [(.ref b13)]) (lenOf pd_2 rfl) rfl (by show 2 * 0 + _ ≤ _; exact Nat.le_of_eq rfl) (hb hby at_89) (fun _ _ => ⟨rfl, e13, (by decide : 19 + 0 ≤ _), (by decide : 42 + 0 ≤ _)⟩)
      dsimp only [Pt.U, Pt.locs, Pt.cells, Pt.slots] at X23 lq23 yq23 zq23 st23 hQ23
      subst lq23 yq23 zq23
      obtain ⟨h23, e23⟩ : ∃ z, T23.heap = z := ⟨_, rfl⟩
      rw [e23] at hQ23
      obtain ⟨rfl, N23q, K23, p23_0, p23_1, p23_2, p23_3, p23_4, p23_5, p23_6⟩ := hQ23
      have N23 := Fr.app N11 N23q
      have C24 : CHr Z consts_1 s.vm h0 T11.vm h23 := CHr.trans C14 (CHr.keep K23 (sfS (Safe.exa hZ11.alike A13 (by decide) (by decide)) sf0) C14.1)
      refine go_tr st23 ?_
      show Go _ _ _ _ (T23.setTop (mkF m 92 #[iv p0, iv p1, iv p2, iv p3, iv p4, rv g_1, iv 0, iv 0, rv a_4, rv a_7, rv a_11, .val .null, .unset, .unset, .unset] [(.ref b13)]))
      refine go_st (fun t k => XS.astore X23.here hx rfl (hb hby at_92) rfl rfl (l' := #[iv p0, iv p1, iv p2, iv p3, iv p4, rv g_1, iv 0, iv 0, rv a_4, rv a_7, rv a_11, .val .null, rv b13, .unset, .unset]) rfl k) ?_
      show Go _ _ _ _ (T23.setTop (mkF m 94 #[iv p0, iv p1, iv p2, iv p3, iv p4, rv g_1, iv 0, iv 0, rv a_4, rv a_7, rv a_11, .val .null, rv b13, .unset, .unset] []))
      refine go_st (fun t k => XS.aload X23.here hx rfl (hb hby at_94) rfl rfl k) ?_
      show Go _ _ _ _ (T23.setTop (mkF m 96 #[iv p0, iv p1, iv p2, iv p3, iv p4, rv g_1, iv 0, iv 0, rv a_4, rv a_7, rv a_11, .val .null, rv b13, .unset, .unset] [(.ref b13)]))
      have sz25 : h0.size ≤ h23.size := (Nat.le_trans sz22 K23.1)
      obtain ⟨cq26, kq26, q26a, q26b, q26c⟩ := isOf hZ11 e23 p23_0
      obtain ⟨_, _, ⟨T26, L26, kk26, nn26⟩, -, X26, ⟨Lc26, hQ26, lq26, yq26, zq26⟩, st26⟩ := X23.virtualBack hx (y := (⟨"com/example/tuplet/tuplet/Commands$Option", "asRequired", "()Lcom/example/tuplet/tuplet/Commands$Option;"⟩ : MethodName)) (z := (⟨"com/example/tuplet/tuplet/Commands$Option", "asRequired", "()Lcom/example/tuplet/tuplet/Commands$Option;"⟩ : MethodName)) hown11 (mvT hZ11 (w56 hw)) (mvT hZ11 (w57 hw)) (notFace_of_selects (args := #[]) (mvT hZ11 (w59 hw))) (mvT hZ11 (w59 hw)) (mvT hZ11 (w58 hw)) (by decide) (backOf (W := 0) (rm_asreq0 l Z a0 hw [] b13 (.ref a_4) (.ref g_1) (.ref a_7) (.ref a_11) .null h23 n0 (Nat.le_trans Z0 sz25) p23_1 p23_2 p23_3 p23_4 p23_5 p23_6 rfl rfl rfl rfl rfl) hZ11 (w60 hw) (w34 hw) (by decide) (by decide)) q26a q26c (g := (mkF m 96 #[iv p0, iv p1, iv p2, iv p3, iv p4, rv g_1, iv 0, iv 0, rv a_4, rv a_7, rv a_11, .val .null, rv b13, .unset, .unset] [(.ref b13)])) rfl (by rw [hml]; rfl) (Steps.refl _) (argsL := []) (rest := []) (lenOf pd_6 rfl) rfl (by show 2 * 0 + _ ≤ _; exact Nat.le_of_eq rfl) (hb hby at_96) (fun _ _ => ⟨rfl, e23, (by decide : 19 + 1 ≤ _), (by decide : 42 + 6 ≤ _)⟩)
      dsimp only [Pt.U, Pt.locs, Pt.cells, Pt.slots] at X26 lq26 yq26 zq26 st26 hQ26
      subst lq26 yq26 zq26
      obtain ⟨h26, e26⟩ : ∃ z, T26.heap = z := ⟨_, rfl⟩
      rw [e26] at hQ26
      obtain ⟨b_26, rfl, N26q, K26, gf26_0, lf26_0, p26_1, p26_2, p26_3, p26_4, p26_5, p26_6, p26_7⟩ := hQ26
      have N26 := Fr.app N23 N26q
      have C27 : CHr Z consts_1 s.vm h0 T11.vm h26 := CHr.trans C24 (CHr.keep K26 sf0 C24.1)
      refine go_tr st26 ?_
      show Go _ _ _ _ (T26.setTop (mkF m 99 #[iv p0, iv p1, iv p2, iv p3, iv p4, rv g_1, iv 0, iv 0, rv a_4, rv a_7, rv a_11, .val .null, rv b13, .unset, .unset] [(.ref b_26)]))
      refine go_st (fun t k => XS.astore X26.here hx rfl (hb hby at_99) rfl rfl (l' := #[iv p0, iv p1, iv p2, iv p3, iv p4, rv g_1, iv 0, iv 0, rv a_4, rv a_7, rv a_11, .val .null, rv b13, rv b_26, .unset]) rfl k) ?_
      show Go _ _ _ _ (T26.setTop (mkF m 101 #[iv p0, iv p1, iv p2, iv p3, iv p4, rv g_1, iv 0, iv 0, rv a_4, rv a_7, rv a_11, .val .null, rv b13, rv b_26, .unset] []))
      refine go_st (fun t k => XS.aload X26.here hx rfl (hb hby at_101) rfl rfl k) ?_
      show Go _ _ _ _ (T26.setTop (mkF m 103 #[iv p0, iv p1, iv p2, iv p3, iv p4, rv g_1, iv 0, iv 0, rv a_4, rv a_7, rv a_11, .val .null, rv b13, rv b_26, .unset] [(.ref b_26)]))
      refine go_st (fun t k => XS.ifnonnullYes X26.here hx rfl (pc0 := 103) (pc' := 108) rfl (hb hby at_103) rfl (by decide) (by decide) k) ?_
      show Go _ _ _ _ (T26.setTop (mkF m 108 #[iv p0, iv p1, iv p2, iv p3, iv p4, rv g_1, iv 0, iv 0, rv a_4, rv a_7, rv a_11, .val .null, rv b13, rv b_26, .unset] []))
      refine go_st (fun t k => XS.aload X26.here hx rfl (hb hby at_108) rfl rfl k) ?_
      show Go _ _ _ _ (T26.setTop (mkF m 110 #[iv p0, iv p1, iv p2, iv p3, iv p4, rv g_1, iv 0, iv 0, rv a_4, rv a_7, rv a_11, .val .null, rv b13, rv b_26, .unset] [.null]))
      refine go_st (fun t k => XS.ifnonnullNo X26.here hx rfl (hb hby at_110) rfl k) ?_
      show Go _ _ _ _ (T26.setTop (mkF m 113 #[iv p0, iv p1, iv p2, iv p3, iv p4, rv g_1, iv 0, iv 0, rv a_4, rv a_7, rv a_11, .val .null, rv b13, rv b_26, .unset] []))
      refine go_st (fun t k => XS.aload X26.here hx rfl (hb hby at_113) rfl rfl k) ?_
      show Go _ _ _ _ (T26.setTop (mkF m 115 #[iv p0, iv p1, iv p2, iv p3, iv p4, rv g_1, iv 0, iv 0, rv a_4, rv a_7, rv a_11, .val .null, rv b13, rv b_26, .unset] [(.ref b_26)]))
      have sz28 : h0.size ≤ h26.size := (Nat.le_trans sz25 K26.1)
      obtain ⟨cq29, kq29, q29a, q29b, q29c⟩ := isOf hZ11 e26 p26_1
      obtain ⟨_, _, ⟨T29, L29, kk29, nn29⟩, -, X29, ⟨Lc29, hQ29, lq29, yq29, zq29⟩, st29⟩ := X26.virtualBack hx (y := (⟨"com/example/tuplet/tuplet/Commands$Option", "byDefault", "()Ljava/lang/String;"⟩ : MethodName)) (z := (⟨"com/example/tuplet/tuplet/Commands$Option", "byDefault", "()Ljava/lang/String;"⟩ : MethodName)) hown11 (mvT hZ11 (w63 hw)) (mvT hZ11 (w64 hw)) (notFace_of_selects (args := #[]) (mvT hZ11 (w66 hw))) (mvT hZ11 (w66 hw)) (mvT hZ11 (w65 hw)) (by decide) (backOf (W := 0) (rm_get_byDefault l Z a0 hw [] b_26 .null h26 n0 (Nat.le_trans Z0 sz28) p26_7 rfl) hZ11 (w67 hw) (w34 hw) (by decide) (by decide)) q29a q29c (g := (mkF m 115 #[iv p0, iv p1, iv p2, iv p3, iv p4, rv g_1, iv 0, iv 0, rv a_4, rv a_7, rv a_11, .val .null, rv b13, rv b_26, .unset] [(.ref b_26)])) rfl (by rw [hml]; rfl) (Steps.refl _) (argsL := []) (rest := []) (lenOf pd_7 rfl) rfl (by show 2 * 0 + _ ≤ _; exact Nat.le_of_eq rfl) (hb hby at_115) (fun _ _ => ⟨rfl, e26, (by decide : 20 + 0 ≤ _), (by decide : 48 + 0 ≤ _)⟩)
      dsimp only [Pt.U, Pt.locs, Pt.cells, Pt.slots] at X29 lq29 yq29 zq29 st29 hQ29
      subst lq29 yq29 zq29
      obtain ⟨h29, e29⟩ : ∃ z, T29.heap = z := ⟨_, rfl⟩
      rw [e29] at hQ29
      obtain ⟨rfl, N29q, he29⟩ := hQ29
      have N29 := Fr.app N26 N29q
      rw [he29] at e29
      refine go_tr st29 ?_
      show Go _ _ _ _ (T29.setTop (mkF m 118 #[iv p0, iv p1, iv p2, iv p3, iv p4, rv g_1, iv 0, iv 0, rv a_4, rv a_7, rv a_11, .val .null, rv b13, rv b_26, .unset] [.null]))
      refine go_st (fun t k => XS.ifnonnullNo X29.here hx rfl (hb hby at_118) rfl k) ?_
      show Go _ _ _ _ (T29.setTop (mkF m 121 #[iv p0, iv p1, iv p2, iv p3, iv p4, rv g_1, iv 0, iv 0, rv a_4, rv a_7, rv a_11, .val .null, rv b13, rv b_26, .unset] []))
      refine go_st (fun t k => XS.iconst X29.here hx rfl (hb hby at_121) k) ?_
      show Go _ _ _ _ (T29.setTop (mkF m 122 #[iv p0, iv p1, iv p2, iv p3, iv p4, rv g_1, iv 0, iv 0, rv a_4, rv a_7, rv a_11, .val .null, rv b13, rv b_26, .unset] [(.int 1)]))
      refine go_st (fun t k => XS.goto X29.here hx rfl (pc0 := 122) (pc' := 126) rfl (hb hby at_122) (by decide) (by decide) k) ?_
      show Go _ _ _ _ (T29.setTop (mkF m 126 #[iv p0, iv p1, iv p2, iv p3, iv p4, rv g_1, iv 0, iv 0, rv a_4, rv a_7, rv a_11, .val .null, rv b13, rv b_26, .unset] [(.int 1)]))
      refine go_st (fun t k => XS.istore X29.here hx rfl (hb hby at_126) rfl (l' := #[iv p0, iv p1, iv p2, iv p3, iv p4, rv g_1, iv 0, iv 0, rv a_4, rv a_7, rv a_11, .val .null, rv b13, rv b_26, iv 1]) rfl k) ?_
      show Go _ _ _ _ (T29.setTop (mkF m 128 #[iv p0, iv p1, iv p2, iv p3, iv p4, rv g_1, iv 0, iv 0, rv a_4, rv a_7, rv a_11, .val .null, rv b13, rv b_26, iv 1] []))
      refine go_st (fun t k => XS.goto X29.here hx rfl (pc0 := 128) (pc' := 143) rfl (hb hby at_128) (by decide) (by decide) k) ?_
      show Go _ _ _ _ (T29.setTop (mkF m 143 #[iv p0, iv p1, iv p2, iv p3, iv p4, rv g_1, iv 0, iv 0, rv a_4, rv a_7, rv a_11, .val .null, rv b13, rv b_26, iv 1] []))
      refine go_st (fun t k => XS.aload X29.here hx rfl (hb hby at_143) rfl rfl k) ?_
      show Go _ _ _ _ (T29.setTop (mkF m 145 #[iv p0, iv p1, iv p2, iv p3, iv p4, rv g_1, iv 0, iv 0, rv a_4, rv a_7, rv a_11, .val .null, rv b13, rv b_26, iv 1] [(.ref a_4)]))
      refine go_st (fun t k => XS.aload X29.here hx rfl (hb hby at_145) rfl rfl k) ?_
      show Go _ _ _ _ (T29.setTop (mkF m 147 #[iv p0, iv p1, iv p2, iv p3, iv p4, rv g_1, iv 0, iv 0, rv a_4, rv a_7, rv a_11, .val .null, rv b13, rv b_26, iv 1] [(.ref b_26), (.ref a_4)]))
      obtain ⟨cq30, kq30, q30a, q30b, q30c⟩ := isOf hZ11 e29 p26_1
      obtain ⟨_, _, ⟨T30, L30, kk30, nn30⟩, -, X30, ⟨Lc30, hQ30, lq30, yq30, zq30⟩, st30⟩ := X29.virtualBack hx (y := (⟨"com/example/tuplet/tuplet/Commands$Option", "name", "()Ljava/lang/String;"⟩ : MethodName)) (z := (⟨"com/example/tuplet/tuplet/Commands$Option", "name", "()Ljava/lang/String;"⟩ : MethodName)) hown11 (mvT hZ11 (w68 hw)) (mvT hZ11 (w69 hw)) (notFace_of_selects (args := #[]) (mvT hZ11 (w71 hw))) (mvT hZ11 (w71 hw)) (mvT hZ11 (w70 hw)) (by decide) (backOf (W := 1) (rm_get_name l Z a0 hw [] b_26 (.ref a_4) h26 n0 (Nat.le_trans Z0 sz28) p26_2 rfl) hZ11 (w72 hw) (w34 hw) (by decide) (by decide)) q30a q30c (g := (mkF m 147 #[iv p0, iv p1, iv p2, iv p3, iv p4, rv g_1, iv 0, iv 0, rv a_4, rv a_7, rv a_11, .val .null, rv b13, rv b_26, iv 1] [(.ref b_26), (.ref a_4)])) rfl (by rw [hml]; rfl) (Steps.refl _) (argsL := []) (rest := [(.ref a_4)]) (lenOf pd_7 rfl) rfl (by show 2 * 0 + _ ≤ _; exact Nat.le_of_eq rfl) (hb hby at_147) (fun _ _ => ⟨rfl, e29, (by decide : 20 + 0 ≤ _), (by decide : 48 + 0 ≤ _)⟩)
      dsimp only [Pt.U, Pt.locs, Pt.cells, Pt.slots] at X30 lq30 yq30 zq30 st30 hQ30
      subst lq30 yq30 zq30
      obtain ⟨h30, e30⟩ : ∃ z, T30.heap = z := ⟨_, rfl⟩
      rw [e30] at hQ30
      obtain ⟨rfl, N30q, he30⟩ := hQ30
      have N30 := Fr.app N29 N30q
      rw [he30] at e30
      refine go_tr st30 ?_
      show Go _ _ _ _ (T30.setTop (mkF m 150 #[iv p0, iv p1, iv p2, iv p3, iv p4, rv g_1, iv 0, iv 0, rv a_4, rv a_7, rv a_11, .val .null, rv b13, rv b_26, iv 1] [(.ref a_4), (.ref a_4)]))
      have f32 : Exa Z h26 a_4 "java/lang/String" := (((((p4_1.keep K7).keep K11).ext E13).keep K23).keep K26)
      obtain ⟨cq31, kq31, q31a, q31b, q31c⟩ := isOf hZ11 e30 f32
      obtain ⟨_, _, ⟨T31, L31, kk31, nn31⟩, -, X31, ⟨Lc31, hQ31, lq31, yq31, zq31⟩, st31⟩ := X30.virtualBack hx (y := (⟨"java/lang/String", "equals", "(Ljava/lang/Object;)Z"⟩ : MethodName)) (z := (⟨"java/lang/String", "equals", "(Ljava/lang/Object;)Z"⟩ : MethodName)) hown11 (mvT hZ11 (w73 hw)) (mvT hZ11 (w74 hw)) (notFace_of_selects (args := #[]) (mvT hZ11 (w76 hw))) (mvT hZ11 (w76 hw)) (mvT hZ11 (w75 hw)) (by decide) (backOf (W := 0) (rm_eqsame l Z a0 hw [] a_4 h26 n0 (Nat.le_trans Z0 sz28) ) hZ11 (w77 hw) (w12 hw) (by decide) (by decide)) q31a q31c (g := (mkF m 150 #[iv p0, iv p1, iv p2, iv p3, iv p4, rv g_1, iv 0, iv 0, rv a_4, rv a_7, rv a_11, .val .null, rv b13, rv b_26, iv 1] [(.ref a_4), (.ref a_4)])) rfl (by rw [hml]; rfl) (Steps.refl _) (argsL := [(.ref a_4)]) (rest := []) (lenOf pd_8 rfl) rfl (by show 2 * 0 + _ ≤ _; exact Nat.le_of_eq rfl) (hb hby at_150) (fun _ _ => ⟨rfl, e30, (by decide : 20 + 0 ≤ _), (by decide : 48 + 0 ≤ _)⟩)
      dsimp only [Pt.U, Pt.locs, Pt.cells, Pt.slots] at X31 lq31 yq31 zq31 st31 hQ31
      subst lq31 yq31 zq31
      obtain ⟨h31, e31⟩ : ∃ z, T31.heap = z := ⟨_, rfl⟩
      rw [e31] at hQ31
      obtain ⟨rfl, N31q, he31⟩ := hQ31
      have N31 := Fr.app N30 N31q
      rw [he31] at e31
      refine go_tr st31 ?_
      show Go _ _ _ _ (T31.setTop (mkF m 153 #[iv p0, iv p1, iv p2, iv p3, iv p4, rv g_1, iv 0, iv 0, rv a_4, rv a_7, rv a_11, .val .null, rv b13, rv b_26, iv 1] [(.int 1)]))
      refine go_st (fun t k => XS.ifNo X31.here hx rfl (hb hby at_153) rfl ((if0 _ _).trans (feq ((by decide) : ¬ ((1 : Int32) = (0 : Int32)))).1) k) ?_
      show Go _ _ _ _ (T31.setTop (mkF m 156 #[iv p0, iv p1, iv p2, iv p3, iv p4, rv g_1, iv 0, iv 0, rv a_4, rv a_7, rv a_11, .val .null, rv b13, rv b_26, iv 1] []))
      refine go_st (fun t k => XS.aload X31.here hx rfl (hb hby at_156) rfl rfl k) ?_
      show Go _ _ _ _ (T31.setTop (mkF m 158 #[iv p0, iv p1, iv p2, iv p3, iv p4, rv g_1, iv 0, iv 0, rv a_4, rv a_7, rv a_11, .val .null, rv b13, rv b_26, iv 1] [(.ref b_26)]))
      obtain ⟨cq33, kq33, q33a, q33b, q33c⟩ := isOf hZ11 e31 p26_1
      obtain ⟨_, _, ⟨T33, L33, kk33, nn33⟩, -, X33, ⟨Lc33, hQ33, lq33, yq33, zq33⟩, st33⟩ := X31.virtualBack hx (y := (⟨"com/example/tuplet/tuplet/Commands$Option", "kind", "()Lcom/example/tuplet/tuplet/Commands$Kind;"⟩ : MethodName)) (z := (⟨"com/example/tuplet/tuplet/Commands$Option", "kind", "()Lcom/example/tuplet/tuplet/Commands$Kind;"⟩ : MethodName)) hown11 (mvT hZ11 (w78 hw)) (mvT hZ11 (w79 hw)) (notFace_of_selects (args := #[]) (mvT hZ11 (w81 hw))) (mvT hZ11 (w81 hw)) (mvT hZ11 (w80 hw)) (by decide) (backOf (W := 0) (rm_get_kind l Z a0 hw [] b_26 (.ref g_1) h26 n0 (Nat.le_trans Z0 sz28) p26_3 rfl) hZ11 (w82 hw) (w34 hw) (by decide) (by decide)) q33a q33c (g := (mkF m 158 #[iv p0, iv p1, iv p2, iv p3, iv p4, rv g_1, iv 0, iv 0, rv a_4, rv a_7, rv a_11, .val .null, rv b13, rv b_26, iv 1] [(.ref b_26)])) rfl (by rw [hml]; rfl) (Steps.refl _) (argsL := []) (rest := []) (lenOf pd_9 rfl) rfl (by show 2 * 0 + _ ≤ _; exact Nat.le_of_eq rfl) (hb hby at_158) (fun _ _ => ⟨rfl, e31, (by decide : 20 + 0 ≤ _), (by decide : 48 + 0 ≤ _)⟩)
      dsimp only [Pt.U, Pt.locs, Pt.cells, Pt.slots] at X33 lq33 yq33 zq33 st33 hQ33
      subst lq33 yq33 zq33
      obtain ⟨h33, e33⟩ : ∃ z, T33.heap = z := ⟨_, rfl⟩
      rw [e33] at hQ33
      obtain ⟨rfl, N33q, he33⟩ := hQ33
      have N33 := Fr.app N31 N33q
      rw [he33] at e33
      refine go_tr st33 ?_
      show Go _ _ _ _ (T33.setTop (mkF m 161 #[iv p0, iv p1, iv p2, iv p3, iv p4, rv g_1, iv 0, iv 0, rv a_4, rv a_7, rv a_11, .val .null, rv b13, rv b_26, iv 1] [(.ref g_1)]))
      refine go_st (fun t k => XS.aload X33.here hx rfl (hb hby at_161) rfl rfl k) ?_
      show Go _ _ _ _ (T33.setTop (mkF m 163 #[iv p0, iv p1, iv p2, iv p3, iv p4, rv g_1, iv 0, iv 0, rv a_4, rv a_7, rv a_11, .val .null, rv b13, rv b_26, iv 1] [(.ref g_1), (.ref g_1)]))
      refine go_st (fun t k => Jvm.RoadKit.acmp (g := (mkF m 163 #[iv p0, iv p1, iv p2, iv p3, iv p4, rv g_1, iv 0, iv 0, rv a_4, rv a_7, rv a_11, .val .null, rv b13, rv b_26, iv 1] [(.ref g_1), (.ref g_1)])) X33 hx rfl rfl rfl (pc0 := 163) (pc' := 166) (same := true) rfl (hb hby at_163) rfl (decide_eq_true rfl) (by decide) (by decide) k) ?_
      show Go _ _ _ _ (T33.setTop (mkF m 166 #[iv p0, iv p1, iv p2, iv p3, iv p4, rv g_1, iv 0, iv 0, rv a_4, rv a_7, rv a_11, .val .null, rv b13, rv b_26, iv 1] []))
      refine go_st (fun t k => XS.aload X33.here hx rfl (hb hby at_166) rfl rfl k) ?_
      show Go _ _ _ _ (T33.setTop (mkF m 168 #[iv p0, iv p1, iv p2, iv p3, iv p4, rv g_1, iv 0, iv 0, rv a_4, rv a_7, rv a_11, .val .null, rv b13, rv b_26, iv 1] [(.ref a_7)]))
      refine go_st (fun t k => XS.aload X33.here hx rfl (hb hby at_168) rfl rfl k) ?_
      show Go _ _ _ _ (T33.setTop (mkF m 170 #[iv p0, iv p1, iv p2, iv p3, iv p4, rv g_1, iv 0, iv 0, rv a_4, rv a_7, rv a_11, .val .null, rv b13, rv b_26, iv 1] [(.ref b_26), (.ref a_7)]))
      obtain ⟨cq34, kq34, q34a, q34b, q34c⟩ := isOf hZ11 e33 p26_1
      obtain ⟨_, _, ⟨T34, L34, kk34, nn34⟩, -, X34, ⟨Lc34, hQ34, lq34, yq34, zq34⟩, st34⟩ := X33.virtualBack hx (y := (⟨"com/example/tuplet/tuplet/Commands$Option", "label", "()Ljava/lang/String;"⟩ : MethodName)) (z := (⟨"com/example/tuplet/tuplet/Commands$Option", "label", "()Ljava/lang/String;"⟩ : MethodName)) hown11 (mvT hZ11 (w83 hw)) (mvT hZ11 (w84 hw)) (notFace_of_selects (args := #[]) (mvT hZ11 (w86 hw))) (mvT hZ11 (w86 hw)) (mvT hZ11 (w85 hw)) (by decide) (backOf (W := 1) (rm_get_label l Z a0 hw [] b_26 (.ref a_7) h26 n0 (Nat.le_trans Z0 sz28) p26_4 rfl) hZ11 (w87 hw) (w34 hw) (by decide) (by decide)) q34a q34c (g := (mkF m 170 #[iv p0, iv p1, iv p2, iv p3, iv p4, rv g_1, iv 0, iv 0, rv a_4, rv a_7, rv a_11, .val .null, rv b13, rv b_26, iv 1] [(.ref b_26), (.ref a_7)])) rfl (by rw [hml]; rfl) (Steps.refl _) (argsL := []) (rest := [(.ref a_7)]) (lenOf pd_7 rfl) rfl (by show 2 * 0 + _ ≤ _; exact Nat.le_of_eq rfl) (hb hby at_170) (fun _ _ => ⟨rfl, e33, (by decide : 20 + 0 ≤ _), (by decide : 48 + 0 ≤ _)⟩)
      dsimp only [Pt.U, Pt.locs, Pt.cells, Pt.slots] at X34 lq34 yq34 zq34 st34 hQ34
      subst lq34 yq34 zq34
      obtain ⟨h34, e34⟩ : ∃ z, T34.heap = z := ⟨_, rfl⟩
      rw [e34] at hQ34
      obtain ⟨rfl, N34q, he34⟩ := hQ34
      have N34 := Fr.app N33 N34q
      rw [he34] at e34
      refine go_tr st34 ?_
      show Go _ _ _ _ (T34.setTop (mkF m 173 #[iv p0, iv p1, iv p2, iv p3, iv p4, rv g_1, iv 0, iv 0, rv a_4, rv a_7, rv a_11, .val .null, rv b13, rv b_26, iv 1] [(.ref a_7), (.ref a_7)]))
      have f36 : Exa Z h26 a_7 "java/lang/String" := ((((p7_1.keep K11).ext E13).keep K23).keep K26)
      obtain ⟨cq35, kq35, q35a, q35b, q35c⟩ := isOf hZ11 e34 f36
      obtain ⟨_, _, ⟨T35, L35, kk35, nn35⟩, -, X35, ⟨Lc35, hQ35, lq35, yq35, zq35⟩, st35⟩ := X34.virtualBack hx (y := (⟨"java/lang/String", "equals", "(Ljava/lang/Object;)Z"⟩ : MethodName)) (z := (⟨"java/lang/String", "equals", "(Ljava/lang/Object;)Z"⟩ : MethodName)) hown11 (mvT hZ11 (w73 hw)) (mvT hZ11 (w74 hw)) (notFace_of_selects (args := #[]) (mvT hZ11 (w76 hw))) (mvT hZ11 (w76 hw)) (mvT hZ11 (w75 hw)) (by decide) (backOf (W := 0) (rm_eqsame l Z a0 hw [] a_7 h26 n0 (Nat.le_trans Z0 sz28) ) hZ11 (w77 hw) (w12 hw) (by decide) (by decide)) q35a q35c (g := (mkF m 173 #[iv p0, iv p1, iv p2, iv p3, iv p4, rv g_1, iv 0, iv 0, rv a_4, rv a_7, rv a_11, .val .null, rv b13, rv b_26, iv 1] [(.ref a_7), (.ref a_7)])) rfl (by rw [hml]; rfl) (Steps.refl _) (argsL := [(.ref a_7)]) (rest := []) (lenOf pd_8 rfl) rfl (by show 2 * 0 + _ ≤ _; exact Nat.le_of_eq rfl) (hb hby at_173) (fun _ _ => ⟨rfl, e34, (by decide : 20 + 0 ≤ _), (by decide : 48 + 0 ≤ _)⟩)
      dsimp only [Pt.U, Pt.locs, Pt.cells, Pt.slots] at X35 lq35 yq35 zq35 st35 hQ35
      subst lq35 yq35 zq35
      obtain ⟨h35, e35⟩ : ∃ z, T35.heap = z := ⟨_, rfl⟩
      rw [e35] at hQ35
      obtain ⟨rfl, N35q, he35⟩ := hQ35
      have N35 := Fr.app N34 N35q
      rw [he35] at e35
      refine go_tr st35 ?_
      show Go _ _ _ _ (T35.setTop (mkF m 176 #[iv p0, iv p1, iv p2, iv p3, iv p4, rv g_1, iv 0, iv 0, rv a_4, rv a_7, rv a_11, .val .null, rv b13, rv b_26, iv 1] [(.int 1)]))
      refine go_st (fun t k => XS.ifNo X35.here hx rfl (hb hby at_176) rfl ((if0 _ _).trans (feq ((by decide) : ¬ ((1 : Int32) = (0 : Int32)))).1) k) ?_
      show Go _ _ _ _ (T35.setTop (mkF m 179 #[iv p0, iv p1, iv p2, iv p3, iv p4, rv g_1, iv 0, iv 0, rv a_4, rv a_7, rv a_11, .val .null, rv b13, rv b_26, iv 1] []))
      refine go_st (fun t k => XS.aload X35.here hx rfl (hb hby at_179) rfl rfl k) ?_
      show Go _ _ _ _ (T35.setTop (mkF m 181 #[iv p0, iv p1, iv p2, iv p3, iv p4, rv g_1, iv 0, iv 0, rv a_4, rv a_7, rv a_11, .val .null, rv b13, rv b_26, iv 1] [(.ref a_11)]))
      refine go_st (fun t k => XS.aload X35.here hx rfl (hb hby at_181) rfl rfl k) ?_
      show Go _ _ _ _ (T35.setTop (mkF m 183 #[iv p0, iv p1, iv p2, iv p3, iv p4, rv g_1, iv 0, iv 0, rv a_4, rv a_7, rv a_11, .val .null, rv b13, rv b_26, iv 1] [(.ref b_26), (.ref a_11)]))
      obtain ⟨cq37, kq37, q37a, q37b, q37c⟩ := isOf hZ11 e35 p26_1
      obtain ⟨_, _, ⟨T37, L37, kk37, nn37⟩, -, X37, ⟨Lc37, hQ37, lq37, yq37, zq37⟩, st37⟩ := X35.virtualBack hx (y := (⟨"com/example/tuplet/tuplet/Commands$Option", "help", "()Ljava/lang/String;"⟩ : MethodName)) (z := (⟨"com/example/tuplet/tuplet/Commands$Option", "help", "()Ljava/lang/String;"⟩ : MethodName)) hown11 (mvT hZ11 (w88 hw)) (mvT hZ11 (w89 hw)) (notFace_of_selects (args := #[]) (mvT hZ11 (w91 hw))) (mvT hZ11 (w91 hw)) (mvT hZ11 (w90 hw)) (by decide) (backOf (W := 1) (rm_get_help l Z a0 hw [] b_26 (.ref a_11) h26 n0 (Nat.le_trans Z0 sz28) p26_5 rfl) hZ11 (w92 hw) (w34 hw) (by decide) (by decide)) q37a q37c (g := (mkF m 183 #[iv p0, iv p1, iv p2, iv p3, iv p4, rv g_1, iv 0, iv 0, rv a_4, rv a_7, rv a_11, .val .null, rv b13, rv b_26, iv 1] [(.ref b_26), (.ref a_11)])) rfl (by rw [hml]; rfl) (Steps.refl _) (argsL := []) (rest := [(.ref a_11)]) (lenOf pd_7 rfl) rfl (by show 2 * 0 + _ ≤ _; exact Nat.le_of_eq rfl) (hb hby at_183) (fun _ _ => ⟨rfl, e35, (by decide : 20 + 0 ≤ _), (by decide : 48 + 0 ≤ _)⟩)
      dsimp only [Pt.U, Pt.locs, Pt.cells, Pt.slots] at X37 lq37 yq37 zq37 st37 hQ37
      subst lq37 yq37 zq37
      obtain ⟨h37, e37⟩ : ∃ z, T37.heap = z := ⟨_, rfl⟩
      rw [e37] at hQ37
      obtain ⟨rfl, N37q, he37⟩ := hQ37
      have N37 := Fr.app N35 N37q
      rw [he37] at e37
      refine go_tr st37 ?_
      show Go _ _ _ _ (T37.setTop (mkF m 186 #[iv p0, iv p1, iv p2, iv p3, iv p4, rv g_1, iv 0, iv 0, rv a_4, rv a_7, rv a_11, .val .null, rv b13, rv b_26, iv 1] [(.ref a_11), (.ref a_11)]))
      have f39 : Exa Z h26 a_11 "java/lang/String" := (((p11_1.ext E13).keep K23).keep K26)
      obtain ⟨cq38, kq38, q38a, q38b, q38c⟩ := isOf hZ11 e37 f39
      obtain ⟨_, _, ⟨T38, L38, kk38, nn38⟩, -, X38, ⟨Lc38, hQ38, lq38, yq38, zq38⟩, st38⟩ := X37.virtualBack hx (y := (⟨"java/lang/String", "equals", "(Ljava/lang/Object;)Z"⟩ : MethodName)) (z := (⟨"java/lang/String", "equals", "(Ljava/lang/Object;)Z"⟩ : MethodName)) hown11 (mvT hZ11 (w73 hw)) (mvT hZ11 (w74 hw)) (notFace_of_selects (args := #[]) (mvT hZ11 (w76 hw))) (mvT hZ11 (w76 hw)) (mvT hZ11 (w75 hw)) (by decide) (backOf (W := 0) (rm_eqsame l Z a0 hw [] a_11 h26 n0 (Nat.le_trans Z0 sz28) ) hZ11 (w77 hw) (w12 hw) (by decide) (by decide)) q38a q38c (g := (mkF m 186 #[iv p0, iv p1, iv p2, iv p3, iv p4, rv g_1, iv 0, iv 0, rv a_4, rv a_7, rv a_11, .val .null, rv b13, rv b_26, iv 1] [(.ref a_11), (.ref a_11)])) rfl (by rw [hml]; rfl) (Steps.refl _) (argsL := [(.ref a_11)]) (rest := []) (lenOf pd_8 rfl) rfl (by show 2 * 0 + _ ≤ _; exact Nat.le_of_eq rfl) (hb hby at_186) (fun _ _ => ⟨rfl, e37, (by decide : 20 + 0 ≤ _), (by decide : 48 + 0 ≤ _)⟩)
      dsimp only [Pt.U, Pt.locs, Pt.cells, Pt.slots] at X38 lq38 yq38 zq38 st38 hQ38
      subst lq38 yq38 zq38
      obtain ⟨h38, e38⟩ : ∃ z, T38.heap = z := ⟨_, rfl⟩
      rw [e38] at hQ38
      obtain ⟨rfl, N38q, he38⟩ := hQ38
      have N38 := Fr.app N37 N38q
      rw [he38] at e38
      refine go_tr st38 ?_
      show Go _ _ _ _ (T38.setTop (mkF m 189 #[iv p0, iv p1, iv p2, iv p3, iv p4, rv g_1, iv 0, iv 0, rv a_4, rv a_7, rv a_11, .val .null, rv b13, rv b_26, iv 1] [(.int 1)]))
      refine go_st (fun t k => XS.ifNo X38.here hx rfl (hb hby at_189) rfl ((if0 _ _).trans (feq ((by decide) : ¬ ((1 : Int32) = (0 : Int32)))).1) k) ?_
      show Go _ _ _ _ (T38.setTop (mkF m 192 #[iv p0, iv p1, iv p2, iv p3, iv p4, rv g_1, iv 0, iv 0, rv a_4, rv a_7, rv a_11, .val .null, rv b13, rv b_26, iv 1] []))
      refine go_st (fun t k => XS.aload X38.here hx rfl (hb hby at_192) rfl rfl k) ?_
      show Go _ _ _ _ (T38.setTop (mkF m 194 #[iv p0, iv p1, iv p2, iv p3, iv p4, rv g_1, iv 0, iv 0, rv a_4, rv a_7, rv a_11, .val .null, rv b13, rv b_26, iv 1] [(.ref b_26)]))
      obtain ⟨cq40, kq40, q40a, q40b, q40c⟩ := isOf hZ11 e38 p26_1
      obtain ⟨_, _, ⟨T40, L40, kk40, nn40⟩, -, X40, ⟨Lc40, hQ40, lq40, yq40, zq40⟩, st40⟩ := X38.virtualBack hx (y := (⟨"com/example/tuplet/tuplet/Commands$Option", "required", "()Z"⟩ : MethodName)) (z := (⟨"com/example/tuplet/tuplet/Commands$Option", "required", "()Z"⟩ : MethodName)) hown11 (mvT hZ11 (w93 hw)) (mvT hZ11 (w94 hw)) (notFace_of_selects (args := #[]) (mvT hZ11 (w96 hw))) (mvT hZ11 (w96 hw)) (mvT hZ11 (w95 hw)) (by decide) (backOf (W := 0) (rm_get_required1 l Z a0 hw [] b_26 h26 n0 (Nat.le_trans Z0 sz28) p26_6) hZ11 (w97 hw) (w34 hw) (by decide) (by decide)) q40a q40c (g := (mkF m 194 #[iv p0, iv p1, iv p2, iv p3, iv p4, rv g_1, iv 0, iv 0, rv a_4, rv a_7, rv a_11, .val .null, rv b13, rv b_26, iv 1] [(.ref b_26)])) rfl (by rw [hml]; rfl) (Steps.refl _) (argsL := []) (rest := []) (lenOf pd_10 rfl) rfl (by show 2 * 0 + _ ≤ _; exact Nat.le_of_eq rfl) (hb hby at_194) (fun _ _ => ⟨rfl, e38, (by decide : 20 + 0 ≤ _), (by decide : 48 + 0 ≤ _)⟩)
      dsimp only [Pt.U, Pt.locs, Pt.cells, Pt.slots] at X40 lq40 yq40 zq40 st40 hQ40
      subst lq40 yq40 zq40
      obtain ⟨h40, e40⟩ : ∃ z, T40.heap = z := ⟨_, rfl⟩
      rw [e40] at hQ40
      obtain ⟨rfl, N40q, he40⟩ := hQ40
      have N40 := Fr.app N38 N40q
      rw [he40] at e40
      refine go_tr st40 ?_
      show Go _ _ _ _ (T40.setTop (mkF m 197 #[iv p0, iv p1, iv p2, iv p3, iv p4, rv g_1, iv 0, iv 0, rv a_4, rv a_7, rv a_11, .val .null, rv b13, rv b_26, iv 1] [(.int 1)]))
      refine go_st (fun t k => XS.ifNo X40.here hx rfl (hb hby at_197) rfl ((if0 _ _).trans (feq ((by decide) : ¬ ((1 : Int32) = (0 : Int32)))).1) k) ?_
      show Go _ _ _ _ (T40.setTop (mkF m 200 #[iv p0, iv p1, iv p2, iv p3, iv p4, rv g_1, iv 0, iv 0, rv a_4, rv a_7, rv a_11, .val .null, rv b13, rv b_26, iv 1] []))
      refine go_st (fun t k => XS.iload X40.here hx rfl (hb hby at_200) rfl k) ?_
      show Go _ _ _ _ (T40.setTop (mkF m 202 #[iv p0, iv p1, iv p2, iv p3, iv p4, rv g_1, iv 0, iv 0, rv a_4, rv a_7, rv a_11, .val .null, rv b13, rv b_26, iv 1] [(.int 1)]))
      refine go_st (fun t k => XS.ifNo X40.here hx rfl (hb hby at_202) rfl ((if0 _ _).trans (feq ((by decide) : ¬ ((1 : Int32) = (0 : Int32)))).1) k) ?_
      show Go _ _ _ _ (T40.setTop (mkF m 205 #[iv p0, iv p1, iv p2, iv p3, iv p4, rv g_1, iv 0, iv 0, rv a_4, rv a_7, rv a_11, .val .null, rv b13, rv b_26, iv 1] []))
      refine go_st (fun t k => XS.iconst X40.here hx rfl (hb hby at_205) k) ?_
      show Go _ _ _ _ (T40.setTop (mkF m 206 #[iv p0, iv p1, iv p2, iv p3, iv p4, rv g_1, iv 0, iv 0, rv a_4, rv a_7, rv a_11, .val .null, rv b13, rv b_26, iv 1] [(.int 1)]))
      refine go_st (fun t k => XS.goto X40.here hx rfl (pc0 := 206) (pc' := 210) rfl (hb hby at_206) (by decide) (by decide) k) ?_
      show Go _ _ _ _ (T40.setTop (mkF m 210 #[iv p0, iv p1, iv p2, iv p3, iv p4, rv g_1, iv 0, iv 0, rv a_4, rv a_7, rv a_11, .val .null, rv b13, rv b_26, iv 1] [(.int 1)]))
      have ke41 : Keep h0 h4 [] := (Keep.trans (Keep.refl h0 []) K4 all0)
      have ke42 : Keep h0 h7 [] := (Keep.trans ke41 K7 all0)
      have ke43 : Keep h0 h11 [] := (Keep.trans ke42 K11 all0)
      have ke44 : Keep h0 h13 [] := (Keep.ext ke43 E13)
      have ke45 : Keep h0 h23 [] := (Keep.trans ke44 K23 (allS (Or.inr (Nat.le_trans sz21 (Nat.le_of_eq gq13.symm))) all0))
      have ke46 : Keep h0 h26 [] := (Keep.trans ke45 K26 all0)
      have sz47 : h11.size ≤ h23.size := (Nat.le_trans E13.1 K23.1)
      have sz48 : h11.size ≤ h26.size := (Nat.le_trans sz47 K26.1)
      obtain ⟨fs, hr, hrun, hended, hR⟩ := X40.leaveW hS11 (by rw [e40]; exact (Nat.le_trans (Nat.le_refl _) sz48)) (v := some (.int 1)) (fun h => by rw [Bd.returns] at h; cases h)
      refine ⟨_, _, ?_, hrun, hended, _, _, rfl, ?_, ?_, hR.1, hR.2.1, hR.2.2.1, hR.2.2.2.mono (by decide) (by decide)⟩
      · exact retN X40 hx (t := .boolean) Bd.returns (by simp) (hb hby at_210) hr
      · show Q_law _ _ _ _ _ _ _ _ _ _ _ _ _ _ _ T40.heap _
        rw [e40]
        exact ⟨rfl, N40, ke46⟩
      · show CHr Z consts_1 s.vm s.heap T40.vm T40.heap
        rw [hh, e40]
        exact CHr.trans C27 (CHv.at X40 hZ11 (hEL hw) C27.1)
    · skip
      refine go_st (fun t k => XS.ifNo X1.here hx rfl (hb hby at_29) rfl ((if0 _ _).trans (feq (hc3 : ¬ ((((p0).toUInt32 >>> ((4 : Int32) &&& 31).toUInt32).toInt32 &&& (1 : Int32)) = (0 : Int32)))).1) k) ?_
      show Go _ _ _ _ (T1.setTop (mkF m 32 #[iv p0, iv p1, iv p2, iv p3, iv p4, rv g_1, iv 0, .unset, .unset, .unset, .unset, .unset, .unset, .unset, .unset] []))
      refine go_st (fun t k => XS.iconst X1.here hx rfl (hb hby at_32) k) ?_
      show Go _ _ _ _ (T1.setTop (mkF m 33 #[iv p0, iv p1, iv p2, iv p3, iv p4, rv g_1, iv 0, .unset, .unset, .unset, .unset, .unset, .unset, .unset, .unset] [(.int 1)]))
      refine go_st (fun t k => XS.goto X1.here hx rfl (pc0 := 33) (pc' := 37) rfl (hb hby at_33) (by decide) (by decide) k) ?_
      show Go _ _ _ _ (T1.setTop (mkF m 37 #[iv p0, iv p1, iv p2, iv p3, iv p4, rv g_1, iv 0, .unset, .unset, .unset, .unset, .unset, .unset, .unset, .unset] [(.int 1)]))
      refine go_st (fun t k => XS.istore X1.here hx rfl (hb hby at_37) rfl (l' := #[iv p0, iv p1, iv p2, iv p3, iv p4, rv g_1, iv 0, iv 1, .unset, .unset, .unset, .unset, .unset, .unset, .unset]) rfl k) ?_
      show Go _ _ _ _ (T1.setTop (mkF m 39 #[iv p0, iv p1, iv p2, iv p3, iv p4, rv g_1, iv 0, iv 1, .unset, .unset, .unset, .unset, .unset, .unset, .unset] []))
      refine go_st (fun t k => XS.iloadN X1.here hx rfl (hb hby at_39) rfl k) ?_
      show Go _ _ _ _ (T1.setTop (mkF m 40 #[iv p0, iv p1, iv p2, iv p3, iv p4, rv g_1, iv 0, iv 1, .unset, .unset, .unset, .unset, .unset, .unset, .unset] [(.int p1)]))
      obtain ⟨_, _, ⟨T49, L49, kk49, nn49⟩, -, X49, hs249, hg49, ⟨Lc49, hQ49, lq49, yq49, zq49, hC49⟩, st49⟩ := callSS X1 hx (y := (⟨"com/example/tuplet/tuplet/OptionAsRequiredPinLaw", "str", "(I)Ljava/lang/String;"⟩ : MethodName)) hown (mvT hZ (w7 hw)) (mvT hZ (w8 hw)) (mvT hZ (w2 hw)) (mvT hZ (w9 hw)) (by decide) (backOfSH (vm0 := s.vm) (W := 0) (rm_str l Z a0 hw [] p1 G1 h0 n0 (Nat.le_trans Z0 (Nat.le_refl _)) CS CSn O0) hZ (w9 hw) (w2 hw) (by decide) (by decide) (hEL hw) C0.1) (g := (mkF m 40 #[iv p0, iv p1, iv p2, iv p3, iv p4, rv g_1, iv 0, iv 1, .unset, .unset, .unset, .unset, .unset, .unset, .unset] [(.int p1)])) rfl (by rw [hml]; rfl) (argsL := [(.int p1)]) (rest := []) (lenOf pd_5 rfl) rfl (by show 2 * 0 + _ ≤ _; exact Nat.le_of_eq rfl) (hb hby at_40) (fun _ _ => ⟨rfl, e1, (by decide : 0 + 6 ≤ _), (by decide : 0 + 12 ≤ _)⟩)
      dsimp only [Pt.U, Pt.locs, Pt.cells, Pt.slots] at X49 hs249 hg49 lq49 yq49 zq49 st49 hQ49 hC49
      subst lq49 yq49 zq49
      rw [e1] at hg49
      obtain ⟨X49, hS49, hZ49, hown49⟩ := rebS (vm0 := s.vm) hS0 (Nat.le_trans hk0 (Nat.le_refl _)) X49 hs249 hg49 hZ hown
      obtain ⟨h49, e49⟩ : ∃ z, T49.heap = z := ⟨_, rfl⟩
      rw [e49] at hQ49 hg49 hC49 hS49
      obtain ⟨a_49, rfl, N49q, K49, gf49_0, lf49_0, p49_1⟩ := hQ49
      have N49 := Fr.app N1 N49q
      have C50 : CHr Z consts_1 s.vm h0 T49.vm h49 := CHr.trans C0 hC49
      refine go_tr st49 ?_
      show Go _ _ _ _ (T49.setTop (mkF m 43 #[iv p0, iv p1, iv p2, iv p3, iv p4, rv g_1, iv 0, iv 1, .unset, .unset, .unset, .unset, .unset, .unset, .unset] [(.ref a_49)]))
      refine go_st (fun t k => XS.astore X49.here hx rfl (hb hby at_43) rfl rfl (l' := #[iv p0, iv p1, iv p2, iv p3, iv p4, rv g_1, iv 0, iv 1, rv a_49, .unset, .unset, .unset, .unset, .unset, .unset]) rfl k) ?_
      show Go _ _ _ _ (T49.setTop (mkF m 45 #[iv p0, iv p1, iv p2, iv p3, iv p4, rv g_1, iv 0, iv 1, rv a_49, .unset, .unset, .unset, .unset, .unset, .unset] []))
      refine go_st (fun t k => XS.iloadN X49.here hx rfl (hb hby at_45) rfl k) ?_
      show Go _ _ _ _ (T49.setTop (mkF m 46 #[iv p0, iv p1, iv p2, iv p3, iv p4, rv g_1, iv 0, iv 1, rv a_49, .unset, .unset, .unset, .unset, .unset, .unset] [(.int p2)]))
      have oe51 : Old Z n0 h49 := (Old.keep O0 K49 all0)
      obtain ⟨_, _, ⟨T52, L52, kk52, nn52⟩, -, X52, hs252, hg52, ⟨Lc52, hQ52, lq52, yq52, zq52, hC52⟩, st52⟩ := callSS X49 hx (y := (⟨"com/example/tuplet/tuplet/OptionAsRequiredPinLaw", "str", "(I)Ljava/lang/String;"⟩ : MethodName)) hown49 (mvT hZ49 (w7 hw)) (mvT hZ49 (w8 hw)) (mvT hZ49 (w2 hw)) (mvT hZ49 (w9 hw)) (by decide) (backOfSH (vm0 := T49.vm) (W := 0) (rm_str l Z a0 hw [] p2 G1 h49 n0 (Nat.le_trans Z0 K49.1) CS CSn oe51) hZ49 (w9 hw) (w2 hw) (by decide) (by decide) (hEL hw) C50.1) (g := (mkF m 46 #[iv p0, iv p1, iv p2, iv p3, iv p4, rv g_1, iv 0, iv 1, rv a_49, .unset, .unset, .unset, .unset, .unset, .unset] [(.int p2)])) rfl (by rw [hml]; rfl) (argsL := [(.int p2)]) (rest := []) (lenOf pd_5 rfl) rfl (by show 2 * 0 + _ ≤ _; exact Nat.le_of_eq rfl) (hb hby at_46) (fun _ _ => ⟨rfl, e49, (by decide : 6 + 6 ≤ _), (by decide : 12 + 12 ≤ _)⟩)
      dsimp only [Pt.U, Pt.locs, Pt.cells, Pt.slots] at X52 hs252 hg52 lq52 yq52 zq52 st52 hQ52 hC52
      subst lq52 yq52 zq52
      rw [e49] at hg52
      obtain ⟨X52, hS52, hZ52, hown52⟩ := rebS (vm0 := T49.vm) hS49 (Nat.le_trans (Nat.le_refl _) (Nat.le_refl _)) X52 hs252 hg52 hZ49 hown49
      obtain ⟨h52, e52⟩ : ∃ z, T52.heap = z := ⟨_, rfl⟩
      rw [e52] at hQ52 hg52 hC52 hS52
      obtain ⟨a_52, rfl, N52q, K52, gf52_0, lf52_0, p52_1⟩ := hQ52
      have N52 := Fr.app N49 N52q
      have C53 : CHr Z consts_1 s.vm h0 T52.vm h52 := CHr.trans C50 hC52
      refine go_tr st52 ?_
      show Go _ _ _ _ (T52.setTop (mkF m 49 #[iv p0, iv p1, iv p2, iv p3, iv p4, rv g_1, iv 0, iv 1, rv a_49, .unset, .unset, .unset, .unset, .unset, .unset] [(.ref a_52)]))
      refine go_st (fun t k => XS.astore X52.here hx rfl (hb hby at_49) rfl rfl (l' := #[iv p0, iv p1, iv p2, iv p3, iv p4, rv g_1, iv 0, iv 1, rv a_49, rv a_52, .unset, .unset, .unset, .unset, .unset]) rfl k) ?_
      show Go _ _ _ _ (T52.setTop (mkF m 51 #[iv p0, iv p1, iv p2, iv p3, iv p4, rv g_1, iv 0, iv 1, rv a_49, rv a_52, .unset, .unset, .unset, .unset, .unset] []))
      refine go_st (fun t k => XS.iloadN X52.here hx rfl (hb hby at_51) rfl k) ?_
      show Go _ _ _ _ (T52.setTop (mkF m 52 #[iv p0, iv p1, iv p2, iv p3, iv p4, rv g_1, iv 0, iv 1, rv a_49, rv a_52, .unset, .unset, .unset, .unset, .unset] [(.int p3)]))
      have oe54 : Old Z n0 h52 := (Old.keep oe51 K52 all0)
      have sz55 : h0.size ≤ h52.size := (Nat.le_trans K49.1 K52.1)
      obtain ⟨_, _, ⟨T56, L56, kk56, nn56⟩, -, X56, hs256, hg56, ⟨Lc56, hQ56, lq56, yq56, zq56, hC56⟩, st56⟩ := callSS X52 hx (y := (⟨"com/example/tuplet/tuplet/OptionAsRequiredPinLaw", "str", "(I)Ljava/lang/String;"⟩ : MethodName)) hown52 (mvT hZ52 (w7 hw)) (mvT hZ52 (w8 hw)) (mvT hZ52 (w2 hw)) (mvT hZ52 (w9 hw)) (by decide) (backOfSH (vm0 := T52.vm) (W := 0) (rm_str l Z a0 hw [] p3 G1 h52 n0 (Nat.le_trans Z0 sz55) CS CSn oe54) hZ52 (w9 hw) (w2 hw) (by decide) (by decide) (hEL hw) C53.1) (g := (mkF m 52 #[iv p0, iv p1, iv p2, iv p3, iv p4, rv g_1, iv 0, iv 1, rv a_49, rv a_52, .unset, .unset, .unset, .unset, .unset] [(.int p3)])) rfl (by rw [hml]; rfl) (argsL := [(.int p3)]) (rest := []) (lenOf pd_5 rfl) rfl (by show 2 * 0 + _ ≤ _; exact Nat.le_of_eq rfl) (hb hby at_52) (fun _ _ => ⟨rfl, e52, (by decide : 12 + 6 ≤ _), (by decide : 24 + 12 ≤ _)⟩)
      dsimp only [Pt.U, Pt.locs, Pt.cells, Pt.slots] at X56 hs256 hg56 lq56 yq56 zq56 st56 hQ56 hC56
      subst lq56 yq56 zq56
      rw [e52] at hg56
      obtain ⟨X56, hS56, hZ56, hown56⟩ := rebS (vm0 := T52.vm) hS52 (Nat.le_trans (Nat.le_refl _) (Nat.le_refl _)) X56 hs256 hg56 hZ52 hown52
      obtain ⟨h56, e56⟩ : ∃ z, T56.heap = z := ⟨_, rfl⟩
      rw [e56] at hQ56 hg56 hC56 hS56
      obtain ⟨a_56, rfl, N56q, K56, gf56_0, lf56_0, p56_1⟩ := hQ56
      have N56 := Fr.app N52 N56q
      have C57 : CHr Z consts_1 s.vm h0 T56.vm h56 := CHr.trans C53 hC56
      refine go_tr st56 ?_
      show Go _ _ _ _ (T56.setTop (mkF m 55 #[iv p0, iv p1, iv p2, iv p3, iv p4, rv g_1, iv 0, iv 1, rv a_49, rv a_52, .unset, .unset, .unset, .unset, .unset] [(.ref a_56)]))
      refine go_st (fun t k => XS.astore X56.here hx rfl (hb hby at_55) rfl rfl (l' := #[iv p0, iv p1, iv p2, iv p3, iv p4, rv g_1, iv 0, iv 1, rv a_49, rv a_52, rv a_56, .unset, .unset, .unset, .unset]) rfl k) ?_
      show Go _ _ _ _ (T56.setTop (mkF m 57 #[iv p0, iv p1, iv p2, iv p3, iv p4, rv g_1, iv 0, iv 1, rv a_49, rv a_52, rv a_56, .unset, .unset, .unset, .unset] []))
      refine go_st (fun t k => XS.iload X56.here hx rfl (hb hby at_57) rfl k) ?_
      show Go _ _ _ _ (T56.setTop (mkF m 59 #[iv p0, iv p1, iv p2, iv p3, iv p4, rv g_1, iv 0, iv 1, rv a_49, rv a_52, rv a_56, .unset, .unset, .unset, .unset] [(.int 1)]))
      refine go_st (fun t k => XS.ifNo X56.here hx rfl (hb hby at_59) rfl ((if0 _ _).trans (feq ((by decide) : ¬ ((1 : Int32) = (0 : Int32)))).1) k) ?_
      show Go _ _ _ _ (T56.setTop (mkF m 62 #[iv p0, iv p1, iv p2, iv p3, iv p4, rv g_1, iv 0, iv 1, rv a_49, rv a_52, rv a_56, .unset, .unset, .unset, .unset] []))
      refine go_st (fun t k => XS.iload X56.here hx rfl (hb hby at_62) rfl k) ?_
      show Go _ _ _ _ (T56.setTop (mkF m 64 #[iv p0, iv p1, iv p2, iv p3, iv p4, rv g_1, iv 0, iv 1, rv a_49, rv a_52, rv a_56, .unset, .unset, .unset, .unset] [(.int p4)]))
      have oe58 : Old Z n0 h56 := (Old.keep oe54 K56 all0)
      have sz59 : h0.size ≤ h56.size := (Nat.le_trans sz55 K56.1)
      obtain ⟨_, _, ⟨T60, L60, kk60, nn60⟩, -, X60, hs260, hg60, ⟨Lc60, hQ60, lq60, yq60, zq60, hC60⟩, st60⟩ := callSS X56 hx (y := (⟨"com/example/tuplet/tuplet/OptionAsRequiredPinLaw", "str", "(I)Ljava/lang/String;"⟩ : MethodName)) hown56 (mvT hZ56 (w7 hw)) (mvT hZ56 (w8 hw)) (mvT hZ56 (w2 hw)) (mvT hZ56 (w9 hw)) (by decide) (backOfSH (vm0 := T56.vm) (W := 0) (rm_str l Z a0 hw [] p4 G1 h56 n0 (Nat.le_trans Z0 sz59) CS CSn oe58) hZ56 (w9 hw) (w2 hw) (by decide) (by decide) (hEL hw) C57.1) (g := (mkF m 64 #[iv p0, iv p1, iv p2, iv p3, iv p4, rv g_1, iv 0, iv 1, rv a_49, rv a_52, rv a_56, .unset, .unset, .unset, .unset] [(.int p4)])) rfl (by rw [hml]; rfl) (argsL := [(.int p4)]) (rest := []) (lenOf pd_5 rfl) rfl (by show 2 * 0 + _ ≤ _; exact Nat.le_of_eq rfl) (hb hby at_64) (fun _ _ => ⟨rfl, e56, (by decide : 18 + 6 ≤ _), (by decide : 36 + 12 ≤ _)⟩)
      dsimp only [Pt.U, Pt.locs, Pt.cells, Pt.slots] at X60 hs260 hg60 lq60 yq60 zq60 st60 hQ60 hC60
      subst lq60 yq60 zq60
      rw [e56] at hg60
      obtain ⟨X60, hS60, hZ60, hown60⟩ := rebS (vm0 := T56.vm) hS56 (Nat.le_trans (Nat.le_refl _) (Nat.le_refl _)) X60 hs260 hg60 hZ56 hown56
      obtain ⟨h60, e60⟩ : ∃ z, T60.heap = z := ⟨_, rfl⟩
      rw [e60] at hQ60 hg60 hC60 hS60
      obtain ⟨a_60, rfl, N60q, K60, gf60_0, lf60_0, p60_1⟩ := hQ60
      have N60 := Fr.app N56 N60q
      have C61 : CHr Z consts_1 s.vm h0 T60.vm h60 := CHr.trans C57 hC60
      refine go_tr st60 ?_
      show Go _ _ _ _ (T60.setTop (mkF m 67 #[iv p0, iv p1, iv p2, iv p3, iv p4, rv g_1, iv 0, iv 1, rv a_49, rv a_52, rv a_56, .unset, .unset, .unset, .unset] [(.ref a_60)]))
      refine go_st (fun t k => XS.goto X60.here hx rfl (pc0 := 67) (pc' := 71) rfl (hb hby at_67) (by decide) (by decide) k) ?_
      show Go _ _ _ _ (T60.setTop (mkF m 71 #[iv p0, iv p1, iv p2, iv p3, iv p4, rv g_1, iv 0, iv 1, rv a_49, rv a_52, rv a_56, .unset, .unset, .unset, .unset] [(.ref a_60)]))
      refine go_st (fun t k => XS.astore X60.here hx rfl (hb hby at_71) rfl rfl (l' := #[iv p0, iv p1, iv p2, iv p3, iv p4, rv g_1, iv 0, iv 1, rv a_49, rv a_52, rv a_56, rv a_60, .unset, .unset, .unset]) rfl k) ?_
      show Go _ _ _ _ (T60.setTop (mkF m 73 #[iv p0, iv p1, iv p2, iv p3, iv p4, rv g_1, iv 0, iv 1, rv a_49, rv a_52, rv a_56, rv a_60, .unset, .unset, .unset] []))
      obtain ⟨T62, h62, X62, e62, E62, A62, D62, -, st62⟩ := newO X60 hx hZ60 hown60 (w32 hw) (w33 hw) (w34 hw) e60 (g := (mkF m 73 #[iv p0, iv p1, iv p2, iv p3, iv p4, rv g_1, iv 0, iv 1, rv a_49, rv a_52, rv a_56, rv a_60, .unset, .unset, .unset] [])) rfl (hb hby at_73) (by decide) (by decide)
      obtain ⟨b62, gq62⟩ : ∃ z, z = h60.size := ⟨_, rfl⟩
      rw [← gq62] at A62 D62 st62
      have C63 : CHr Z consts_1 s.vm h0 T60.vm h62 := CHr.trans C61 (CHr.ext E62 C61.1)
      have f64 : Fld Z h62 b62 "com/example/tuplet/tuplet/Commands$Option" "name" "Ljava/lang/String;" .null := D62 (Or.inr (w45 hw)) (ty := (.object "java/lang/String")) (by decide)
      have f65 : Fld Z h62 b62 "com/example/tuplet/tuplet/Commands$Option" "kind" "Lcom/example/tuplet/tuplet/Commands$Kind;" .null := D62 (Or.inr (w47 hw)) (ty := (.object "com/example/tuplet/tuplet/Commands$Kind")) (by decide)
      have f66 : Fld Z h62 b62 "com/example/tuplet/tuplet/Commands$Option" "label" "Ljava/lang/String;" .null := D62 (Or.inr (w49 hw)) (ty := (.object "java/lang/String")) (by decide)
      have f67 : Fld Z h62 b62 "com/example/tuplet/tuplet/Commands$Option" "help" "Ljava/lang/String;" .null := D62 (Or.inr (w51 hw)) (ty := (.object "java/lang/String")) (by decide)
      have f68 : Fld Z h62 b62 "com/example/tuplet/tuplet/Commands$Option" "required" "Z" (.int 0) := D62 (Or.inr (w53 hw)) (ty := .boolean) (by decide)
      have f69 : Fld Z h62 b62 "com/example/tuplet/tuplet/Commands$Option" "byDefault" "Ljava/lang/String;" .null := D62 (Or.inr (w55 hw)) (ty := (.object "java/lang/String")) (by decide)
      refine go_st (fun t k => st62 t k) ?_
      show Go _ _ _ _ (T62.setTop (mkF m 76 #[iv p0, iv p1, iv p2, iv p3, iv p4, rv g_1, iv 0, iv 1, rv a_49, rv a_52, rv a_56, rv a_60, .unset, .unset, .unset] [(.ref b62)]))
      refine go_st (fun t k => XS.dup X62.here hx rfl (hb hby at_76) rfl rfl k) ?_
      show Go _ _ _ _ (T62.setTop (mkF m 77 #[iv p0, iv p1, iv p2, iv p3, iv p4, rv g_1, iv 0, iv 1, rv a_49, rv a_52, rv a_56, rv a_60, .unset, .unset, .unset] [(.ref b62), (.ref b62)]))
      refine go_st (fun t k => XS.aload X62.here hx rfl (hb hby at_77) rfl rfl k) ?_
      show Go _ _ _ _ (T62.setTop (mkF m 79 #[iv p0, iv p1, iv p2, iv p3, iv p4, rv g_1, iv 0, iv 1, rv a_49, rv a_52, rv a_56, rv a_60, .unset, .unset, .unset] [(.ref a_49), (.ref b62), (.ref b62)]))
      refine go_st (fun t k => XS.aload X62.here hx rfl (hb hby at_79) rfl rfl k) ?_
      show Go _ _ _ _ (T62.setTop (mkF m 81 #[iv p0, iv p1, iv p2, iv p3, iv p4, rv g_1, iv 0, iv 1, rv a_49, rv a_52, rv a_56, rv a_60, .unset, .unset, .unset] [(.ref g_1), (.ref a_49), (.ref b62), (.ref b62)]))
      refine go_st (fun t k => XS.aload X62.here hx rfl (hb hby at_81) rfl rfl k) ?_
      show Go _ _ _ _ (T62.setTop (mkF m 83 #[iv p0, iv p1, iv p2, iv p3, iv p4, rv g_1, iv 0, iv 1, rv a_49, rv a_52, rv a_56, rv a_60, .unset, .unset, .unset] [(.ref a_52), (.ref g_1), (.ref a_49), (.ref b62), (.ref b62)]))
      refine go_st (fun t k => XS.aload X62.here hx rfl (hb hby at_83) rfl rfl k) ?_
      show Go _ _ _ _ (T62.setTop (mkF m 85 #[iv p0, iv p1, iv p2, iv p3, iv p4, rv g_1, iv 0, iv 1, rv a_49, rv a_52, rv a_56, rv a_60, .unset, .unset, .unset] [(.ref a_56), (.ref a_52), (.ref g_1), (.ref a_49), (.ref b62), (.ref b62)]))
      refine go_st (fun t k => XS.iload X62.here hx rfl (hb hby at_85) rfl k) ?_
      show Go _ _ _ _ (T62.setTop (mkF m 87 #[iv p0, iv p1, iv p2, iv p3, iv p4, rv g_1, iv 0, iv 1, rv a_49, rv a_52, rv a_56, rv a_60, .unset, .unset, .unset] [(.int 0), (.ref a_56), (.ref a_52), (.ref g_1), (.ref a_49), (.ref b62), (.ref b62)]))
      refine go_st (fun t k => XS.aload X62.here hx rfl (hb hby at_87) rfl rfl k) ?_
      show Go _ _ _ _ (T62.setTop (mkF m 89 #[iv p0, iv p1, iv p2, iv p3, iv p4, rv g_1, iv 0, iv 1, rv a_49, rv a_52, rv a_56, rv a_60, .unset, .unset, .unset] [(.ref a_60), (.int 0), (.ref a_56), (.ref a_52), (.ref g_1), (.ref a_49), (.ref b62), (.ref b62)]))
      have sz70 : h0.size ≤ h60.size := (Nat.le_trans sz59 K60.1)
      have g_b62 : n0 ≤ b62 := Nat.le_trans (Nat.le_trans Z0 sz70) (Nat.le_of_eq gq62.symm)
      have sz71 : h0.size ≤ h62.size := (Nat.le_trans sz70 E62.1)
      obtain ⟨_, _, ⟨T72, L72, kk72, nn72⟩, -, X72, ⟨Lc72, hQ72, lq72, yq72, zq72⟩, st72⟩ := X62.specialBack hx (y := (⟨"com/example/tuplet/tuplet/Commands$Option", "<init>", "(Ljava/lang/String;Lcom/example/tuplet/tuplet/Commands$Kind;Ljava/lang/String;Ljava/lang/String;ZLjava/lang/String;)V"⟩ : MethodName)) rfl hown60 (mvT hZ60 (w35 hw)) (mvT hZ60 (w36 hw)) (mvT hZ60 (w37 hw)) (by decide) (backOf (W := 1) (rm_ctor0 l Z a0 hw [] b62 (.ref a_49) (.ref g_1) (.ref a_52) (.ref a_56) (.ref a_60) h62 n0 (Nat.le_trans Z0 sz71) A62 f64 f65 f66 f67 f68 f69 g_b62 rfl rfl rfl rfl rfl) hZ60 (w37 hw) (w34 hw) (by decide) (by decide)) (g := (mkF m 89 #[iv p0, iv p1, iv p2, iv p3, iv p4, rv g_1, iv 0, iv 1, rv a_49, rv a_52, rv a_56, rv a_60, .unset, .unset, .unset] [(.ref a_60), (.int 0), (.ref a_56), (.ref a_52), (.ref g_1), (.ref a_49), (.ref b62), (.ref b62)])) rfl (by rw [hml]; rfl) (Steps.refl _) (a := b62) (argsL := [(.ref a_49), (.ref g_1), (.ref a_52), (.ref a_56), (.int 0), (.ref a_60)]) (rest := [(.ref b62)]) (lenOf pd_2 rfl) rfl (by show 2 * 0 + _ ≤ _; exact Nat.le_of_eq rfl) (hb hby at_89) (fun _ _ => ⟨rfl, e62, (by decide : 25 + 0 ≤ _), (by decide : 54 + 0 ≤ _)⟩)
      dsimp only [Pt.U, Pt.locs, Pt.cells, Pt.slots] at X72 lq72 yq72 zq72 st72 hQ72
      subst lq72 yq72 zq72
      obtain ⟨h72, e72⟩ : ∃ z, T72.heap = z := ⟨_, rfl⟩
      rw [e72] at hQ72
      obtain ⟨rfl, N72q, K72, p72_0, p72_1, p72_2, p72_3, p72_4, p72_5, p72_6⟩ := hQ72
      have N72 := Fr.app N60 N72q
      have C73 : CHr Z consts_1 s.vm h0 T60.vm h72 := CHr.trans C63 (CHr.keep K72 (sfS (Safe.exa hZ60.alike A62 (by decide) (by decide)) sf0) C63.1)
      refine go_tr st72 ?_
      show Go _ _ _ _ (T72.setTop (mkF m 92 #[iv p0, iv p1, iv p2, iv p3, iv p4, rv g_1, iv 0, iv 1, rv a_49, rv a_52, rv a_56, rv a_60, .unset, .unset, .unset] [(.ref b62)]))
      refine go_st (fun t k => XS.astore X72.here hx rfl (hb hby at_92) rfl rfl (l' := #[iv p0, iv p1, iv p2, iv p3, iv p4, rv g_1, iv 0, iv 1, rv a_49, rv a_52, rv a_56, rv a_60, rv b62, .unset, .unset]) rfl k) ?_
      show Go _ _ _ _ (T72.setTop (mkF m 94 #[iv p0, iv p1, iv p2, iv p3, iv p4, rv g_1, iv 0, iv 1, rv a_49, rv a_52, rv a_56, rv a_60, rv b62, .unset, .unset] []))
      refine go_st (fun t k => XS.aload X72.here hx rfl (hb hby at_94) rfl rfl k) ?_
      show Go _ _ _ _ (T72.setTop (mkF m 96 #[iv p0, iv p1, iv p2, iv p3, iv p4, rv g_1, iv 0, iv 1, rv a_49, rv a_52, rv a_56, rv a_60, rv b62, .unset, .unset] [(.ref b62)]))
      have sz74 : h0.size ≤ h72.size := (Nat.le_trans sz71 K72.1)
      obtain ⟨cq75, kq75, q75a, q75b, q75c⟩ := isOf hZ60 e72 p72_0
      obtain ⟨_, _, ⟨T75, L75, kk75, nn75⟩, -, X75, ⟨Lc75, hQ75, lq75, yq75, zq75⟩, st75⟩ := X72.virtualBack hx (y := (⟨"com/example/tuplet/tuplet/Commands$Option", "asRequired", "()Lcom/example/tuplet/tuplet/Commands$Option;"⟩ : MethodName)) (z := (⟨"com/example/tuplet/tuplet/Commands$Option", "asRequired", "()Lcom/example/tuplet/tuplet/Commands$Option;"⟩ : MethodName)) hown60 (mvT hZ60 (w56 hw)) (mvT hZ60 (w57 hw)) (notFace_of_selects (args := #[]) (mvT hZ60 (w59 hw))) (mvT hZ60 (w59 hw)) (mvT hZ60 (w58 hw)) (by decide) (backOf (W := 0) (rm_asreq0 l Z a0 hw [] b62 (.ref a_49) (.ref g_1) (.ref a_52) (.ref a_56) (.ref a_60) h72 n0 (Nat.le_trans Z0 sz74) p72_1 p72_2 p72_3 p72_4 p72_5 p72_6 rfl rfl rfl rfl rfl) hZ60 (w60 hw) (w34 hw) (by decide) (by decide)) q75a q75c (g := (mkF m 96 #[iv p0, iv p1, iv p2, iv p3, iv p4, rv g_1, iv 0, iv 1, rv a_49, rv a_52, rv a_56, rv a_60, rv b62, .unset, .unset] [(.ref b62)])) rfl (by rw [hml]; rfl) (Steps.refl _) (argsL := []) (rest := []) (lenOf pd_6 rfl) rfl (by show 2 * 0 + _ ≤ _; exact Nat.le_of_eq rfl) (hb hby at_96) (fun _ _ => ⟨rfl, e72, (by decide : 25 + 1 ≤ _), (by decide : 54 + 6 ≤ _)⟩)
      dsimp only [Pt.U, Pt.locs, Pt.cells, Pt.slots] at X75 lq75 yq75 zq75 st75 hQ75
      subst lq75 yq75 zq75
      obtain ⟨h75, e75⟩ : ∃ z, T75.heap = z := ⟨_, rfl⟩
      rw [e75] at hQ75
      obtain ⟨b_75, rfl, N75q, K75, gf75_0, lf75_0, p75_1, p75_2, p75_3, p75_4, p75_5, p75_6, p75_7⟩ := hQ75
      have N75 := Fr.app N72 N75q
      have C76 : CHr Z consts_1 s.vm h0 T60.vm h75 := CHr.trans C73 (CHr.keep K75 sf0 C73.1)
      refine go_tr st75 ?_
      show Go _ _ _ _ (T75.setTop (mkF m 99 #[iv p0, iv p1, iv p2, iv p3, iv p4, rv g_1, iv 0, iv 1, rv a_49, rv a_52, rv a_56, rv a_60, rv b62, .unset, .unset] [(.ref b_75)]))
      refine go_st (fun t k => XS.astore X75.here hx rfl (hb hby at_99) rfl rfl (l' := #[iv p0, iv p1, iv p2, iv p3, iv p4, rv g_1, iv 0, iv 1, rv a_49, rv a_52, rv a_56, rv a_60, rv b62, rv b_75, .unset]) rfl k) ?_
      show Go _ _ _ _ (T75.setTop (mkF m 101 #[iv p0, iv p1, iv p2, iv p3, iv p4, rv g_1, iv 0, iv 1, rv a_49, rv a_52, rv a_56, rv a_60, rv b62, rv b_75, .unset] []))
      refine go_st (fun t k => XS.aload X75.here hx rfl (hb hby at_101) rfl rfl k) ?_
      show Go _ _ _ _ (T75.setTop (mkF m 103 #[iv p0, iv p1, iv p2, iv p3, iv p4, rv g_1, iv 0, iv 1, rv a_49, rv a_52, rv a_56, rv a_60, rv b62, rv b_75, .unset] [(.ref b_75)]))
      refine go_st (fun t k => XS.ifnonnullYes X75.here hx rfl (pc0 := 103) (pc' := 108) rfl (hb hby at_103) rfl (by decide) (by decide) k) ?_
      show Go _ _ _ _ (T75.setTop (mkF m 108 #[iv p0, iv p1, iv p2, iv p3, iv p4, rv g_1, iv 0, iv 1, rv a_49, rv a_52, rv a_56, rv a_60, rv b62, rv b_75, .unset] []))
      refine go_st (fun t k => XS.aload X75.here hx rfl (hb hby at_108) rfl rfl k) ?_
      show Go _ _ _ _ (T75.setTop (mkF m 110 #[iv p0, iv p1, iv p2, iv p3, iv p4, rv g_1, iv 0, iv 1, rv a_49, rv a_52, rv a_56, rv a_60, rv b62, rv b_75, .unset] [(.ref a_60)]))
      refine go_st (fun t k => XS.ifnonnullYes X75.here hx rfl (pc0 := 110) (pc' := 131) rfl (hb hby at_110) rfl (by decide) (by decide) k) ?_
      show Go _ _ _ _ (T75.setTop (mkF m 131 #[iv p0, iv p1, iv p2, iv p3, iv p4, rv g_1, iv 0, iv 1, rv a_49, rv a_52, rv a_56, rv a_60, rv b62, rv b_75, .unset] []))
      refine go_st (fun t k => XS.aload X75.here hx rfl (hb hby at_131) rfl rfl k) ?_
      show Go _ _ _ _ (T75.setTop (mkF m 133 #[iv p0, iv p1, iv p2, iv p3, iv p4, rv g_1, iv 0, iv 1, rv a_49, rv a_52, rv a_56, rv a_60, rv b62, rv b_75, .unset] [(.ref a_60)]))
      refine go_st (fun t k => XS.aload X75.here hx rfl (hb hby at_133) rfl rfl k) ?_
      show Go _ _ _ _ (T75.setTop (mkF m 135 #[iv p0, iv p1, iv p2, iv p3, iv p4, rv g_1, iv 0, iv 1, rv a_49, rv a_52, rv a_56, rv a_60, rv b62, rv b_75, .unset] [(.ref b_75), (.ref a_60)]))
      have sz77 : h0.size ≤ h75.size := (Nat.le_trans sz74 K75.1)
      obtain ⟨cq78, kq78, q78a, q78b, q78c⟩ := isOf hZ60 e75 p75_1
      obtain ⟨_, _, ⟨T78, L78, kk78, nn78⟩, -, X78, ⟨Lc78, hQ78, lq78, yq78, zq78⟩, st78⟩ := X75.virtualBack hx (y := (⟨"com/example/tuplet/tuplet/Commands$Option", "byDefault", "()Ljava/lang/String;"⟩ : MethodName)) (z := (⟨"com/example/tuplet/tuplet/Commands$Option", "byDefault", "()Ljava/lang/String;"⟩ : MethodName)) hown60 (mvT hZ60 (w63 hw)) (mvT hZ60 (w64 hw)) (notFace_of_selects (args := #[]) (mvT hZ60 (w66 hw))) (mvT hZ60 (w66 hw)) (mvT hZ60 (w65 hw)) (by decide) (backOf (W := 1) (rm_get_byDefault l Z a0 hw [] b_75 (.ref a_60) h75 n0 (Nat.le_trans Z0 sz77) p75_7 rfl) hZ60 (w67 hw) (w34 hw) (by decide) (by decide)) q78a q78c (g := (mkF m 135 #[iv p0, iv p1, iv p2, iv p3, iv p4, rv g_1, iv 0, iv 1, rv a_49, rv a_52, rv a_56, rv a_60, rv b62, rv b_75, .unset] [(.ref b_75), (.ref a_60)])) rfl (by rw [hml]; rfl) (Steps.refl _) (argsL := []) (rest := [(.ref a_60)]) (lenOf pd_7 rfl) rfl (by show 2 * 0 + _ ≤ _; exact Nat.le_of_eq rfl) (hb hby at_135) (fun _ _ => ⟨rfl, e75, (by decide : 26 + 0 ≤ _), (by decide : 60 + 0 ≤ _)⟩)
      dsimp only [Pt.U, Pt.locs, Pt.cells, Pt.slots] at X78 lq78 yq78 zq78 st78 hQ78
      subst lq78 yq78 zq78
      obtain ⟨h78, e78⟩ : ∃ z, T78.heap = z := ⟨_, rfl⟩
      rw [e78] at hQ78
      obtain ⟨rfl, N78q, he78⟩ := hQ78
      have N78 := Fr.app N75 N78q
      rw [he78] at e78
      refine go_tr st78 ?_
      show Go _ _ _ _ (T78.setTop (mkF m 138 #[iv p0, iv p1, iv p2, iv p3, iv p4, rv g_1, iv 0, iv 1, rv a_49, rv a_52, rv a_56, rv a_60, rv b62, rv b_75, .unset] [(.ref a_60), (.ref a_60)]))
      have f80 : Exa Z h75 a_60 "java/lang/String" := (((p60_1.ext E62).keep K72).keep K75)
      obtain ⟨cq79, kq79, q79a, q79b, q79c⟩ := isOf hZ60 e78 f80
      obtain ⟨_, _, ⟨T79, L79, kk79, nn79⟩, -, X79, ⟨Lc79, hQ79, lq79, yq79, zq79⟩, st79⟩ := X78.virtualBack hx (y := (⟨"java/lang/String", "equals", "(Ljava/lang/Object;)Z"⟩ : MethodName)) (z := (⟨"java/lang/String", "equals", "(Ljava/lang/Object;)Z"⟩ : MethodName)) hown60 (mvT hZ60 (w73 hw)) (mvT hZ60 (w74 hw)) (notFace_of_selects (args := #[]) (mvT hZ60 (w76 hw))) (mvT hZ60 (w76 hw)) (mvT hZ60 (w75 hw)) (by decide) (backOf (W := 0) (rm_eqsame l Z a0 hw [] a_60 h75 n0 (Nat.le_trans Z0 sz77) ) hZ60 (w77 hw) (w12 hw) (by decide) (by decide)) q79a q79c (g := (mkF m 138 #[iv p0, iv p1, iv p2, iv p3, iv p4, rv g_1, iv 0, iv 1, rv a_49, rv a_52, rv a_56, rv a_60, rv b62, rv b_75, .unset] [(.ref a_60), (.ref a_60)])) rfl (by rw [hml]; rfl) (Steps.refl _) (argsL := [(.ref a_60)]) (rest := []) (lenOf pd_8 rfl) rfl (by show 2 * 0 + _ ≤ _; exact Nat.le_of_eq rfl) (hb hby at_138) (fun _ _ => ⟨rfl, e78, (by decide : 26 + 0 ≤ _), (by decide : 60 + 0 ≤ _)⟩)
      dsimp only [Pt.U, Pt.locs, Pt.cells, Pt.slots] at X79 lq79 yq79 zq79 st79 hQ79
      subst lq79 yq79 zq79
      obtain ⟨h79, e79⟩ : ∃ z, T79.heap = z := ⟨_, rfl⟩
      rw [e79] at hQ79
      obtain ⟨rfl, N79q, he79⟩ := hQ79
      have N79 := Fr.app N78 N79q
      rw [he79] at e79
      refine go_tr st79 ?_
      show Go _ _ _ _ (T79.setTop (mkF m 141 #[iv p0, iv p1, iv p2, iv p3, iv p4, rv g_1, iv 0, iv 1, rv a_49, rv a_52, rv a_56, rv a_60, rv b62, rv b_75, .unset] [(.int 1)]))
      refine go_st (fun t k => XS.istore X79.here hx rfl (hb hby at_141) rfl (l' := #[iv p0, iv p1, iv p2, iv p3, iv p4, rv g_1, iv 0, iv 1, rv a_49, rv a_52, rv a_56, rv a_60, rv b62, rv b_75, iv 1]) rfl k) ?_
      show Go _ _ _ _ (T79.setTop (mkF m 143 #[iv p0, iv p1, iv p2, iv p3, iv p4, rv g_1, iv 0, iv 1, rv a_49, rv a_52, rv a_56, rv a_60, rv b62, rv b_75, iv 1] []))
      refine go_st (fun t k => XS.aload X79.here hx rfl (hb hby at_143) rfl rfl k) ?_
      show Go _ _ _ _ (T79.setTop (mkF m 145 #[iv p0, iv p1, iv p2, iv p3, iv p4, rv g_1, iv 0, iv 1, rv a_49, rv a_52, rv a_56, rv a_60, rv b62, rv b_75, iv 1] [(.ref a_49)]))
      refine go_st (fun t k => XS.aload X79.here hx rfl (hb hby at_145) rfl rfl k) ?_
      show Go _ _ _ _ (T79.setTop (mkF m 147 #[iv p0, iv p1, iv p2, iv p3, iv p4, rv g_1, iv 0, iv 1, rv a_49, rv a_52, rv a_56, rv a_60, rv b62, rv b_75, iv 1] [(.ref b_75), (.ref a_49)]))
      obtain ⟨cq81, kq81, q81a, q81b, q81c⟩ := isOf hZ60 e79 p75_1
      obtain ⟨_, _, ⟨T81, L81, kk81, nn81⟩, -, X81, ⟨Lc81, hQ81, lq81, yq81, zq81⟩, st81⟩ := X79.virtualBack hx (y := (⟨"com/example/tuplet/tuplet/Commands$Option", "name", "()Ljava/lang/String;"⟩ : MethodName)) (z := (⟨"com/example/tuplet/tuplet/Commands$Option", "name", "()Ljava/lang/String;"⟩ : MethodName)) hown60 (mvT hZ60 (w68 hw)) (mvT hZ60 (w69 hw)) (notFace_of_selects (args := #[]) (mvT hZ60 (w71 hw))) (mvT hZ60 (w71 hw)) (mvT hZ60 (w70 hw)) (by decide) (backOf (W := 1) (rm_get_name l Z a0 hw [] b_75 (.ref a_49) h75 n0 (Nat.le_trans Z0 sz77) p75_2 rfl) hZ60 (w72 hw) (w34 hw) (by decide) (by decide)) q81a q81c (g := (mkF m 147 #[iv p0, iv p1, iv p2, iv p3, iv p4, rv g_1, iv 0, iv 1, rv a_49, rv a_52, rv a_56, rv a_60, rv b62, rv b_75, iv 1] [(.ref b_75), (.ref a_49)])) rfl (by rw [hml]; rfl) (Steps.refl _) (argsL := []) (rest := [(.ref a_49)]) (lenOf pd_7 rfl) rfl (by show 2 * 0 + _ ≤ _; exact Nat.le_of_eq rfl) (hb hby at_147) (fun _ _ => ⟨rfl, e79, (by decide : 26 + 0 ≤ _), (by decide : 60 + 0 ≤ _)⟩)
      dsimp only [Pt.U, Pt.locs, Pt.cells, Pt.slots] at X81 lq81 yq81 zq81 st81 hQ81
      subst lq81 yq81 zq81
      obtain ⟨h81, e81⟩ : ∃ z, T81.heap = z := ⟨_, rfl⟩
      rw [e81] at hQ81
      obtain ⟨rfl, N81q, he81⟩ := hQ81
      have N81 := Fr.app N79 N81q
      rw [he81] at e81
      refine go_tr st81 ?_
      show Go _ _ _ _ (T81.setTop (mkF m 150 #[iv p0, iv p1, iv p2, iv p3, iv p4, rv g_1, iv 0, iv 1, rv a_49, rv a_52, rv a_56, rv a_60, rv b62, rv b_75, iv 1] [(.ref a_49), (.ref a_49)]))
      have f83 : Exa Z h75 a_49 "java/lang/String" := ((((((p49_1.keep K52).keep K56).keep K60).ext E62).keep K72).keep K75)
      obtain ⟨cq82, kq82, q82a, q82b, q82c⟩ := isOf hZ60 e81 f83
      obtain ⟨_, _, ⟨T82, L82, kk82, nn82⟩, -, X82, ⟨Lc82, hQ82, lq82, yq82, zq82⟩, st82⟩ := X81.virtualBack hx (y := (⟨"java/lang/String", "equals", "(Ljava/lang/Object;)Z"⟩ : MethodName)) (z := (⟨"java/lang/String", "equals", "(Ljava/lang/Object;)Z"⟩ : MethodName)) hown60 (mvT hZ60 (w73 hw)) (mvT hZ60 (w74 hw)) (notFace_of_selects (args := #[]) (mvT hZ60 (w76 hw))) (mvT hZ60 (w76 hw)) (mvT hZ60 (w75 hw)) (by decide) (backOf (W := 0) (rm_eqsame l Z a0 hw [] a_49 h75 n0 (Nat.le_trans Z0 sz77) ) hZ60 (w77 hw) (w12 hw) (by decide) (by decide)) q82a q82c (g := (mkF m 150 #[iv p0, iv p1, iv p2, iv p3, iv p4, rv g_1, iv 0, iv 1, rv a_49, rv a_52, rv a_56, rv a_60, rv b62, rv b_75, iv 1] [(.ref a_49), (.ref a_49)])) rfl (by rw [hml]; rfl) (Steps.refl _) (argsL := [(.ref a_49)]) (rest := []) (lenOf pd_8 rfl) rfl (by show 2 * 0 + _ ≤ _; exact Nat.le_of_eq rfl) (hb hby at_150) (fun _ _ => ⟨rfl, e81, (by decide : 26 + 0 ≤ _), (by decide : 60 + 0 ≤ _)⟩)
      dsimp only [Pt.U, Pt.locs, Pt.cells, Pt.slots] at X82 lq82 yq82 zq82 st82 hQ82
      subst lq82 yq82 zq82
      obtain ⟨h82, e82⟩ : ∃ z, T82.heap = z := ⟨_, rfl⟩
      rw [e82] at hQ82
      obtain ⟨rfl, N82q, he82⟩ := hQ82
      have N82 := Fr.app N81 N82q
      rw [he82] at e82
      refine go_tr st82 ?_
      show Go _ _ _ _ (T82.setTop (mkF m 153 #[iv p0, iv p1, iv p2, iv p3, iv p4, rv g_1, iv 0, iv 1, rv a_49, rv a_52, rv a_56, rv a_60, rv b62, rv b_75, iv 1] [(.int 1)]))
      refine go_st (fun t k => XS.ifNo X82.here hx rfl (hb hby at_153) rfl ((if0 _ _).trans (feq ((by decide) : ¬ ((1 : Int32) = (0 : Int32)))).1) k) ?_
      show Go _ _ _ _ (T82.setTop (mkF m 156 #[iv p0, iv p1, iv p2, iv p3, iv p4, rv g_1, iv 0, iv 1, rv a_49, rv a_52, rv a_56, rv a_60, rv b62, rv b_75, iv 1] []))
      refine go_st (fun t k => XS.aload X82.here hx rfl (hb hby at_156) rfl rfl k) ?_
      show Go _ _ _ _ (T82.setTop (mkF m 158 #[iv p0, iv p1, iv p2, iv p3, iv p4, rv g_1, iv 0, iv 1, rv a_49, rv a_52, rv a_56, rv a_60, rv b62, rv b_75, iv 1] [(.ref b_75)]))
      obtain ⟨cq84, kq84, q84a, q84b, q84c⟩ := isOf hZ60 e82 p75_1
      obtain ⟨_, _, ⟨T84, L84, kk84, nn84⟩, -, X84, ⟨Lc84, hQ84, lq84, yq84, zq84⟩, st84⟩ := X82.virtualBack hx (y := (⟨"com/example/tuplet/tuplet/Commands$Option", "kind", "()Lcom/example/tuplet/tuplet/Commands$Kind;"⟩ : MethodName)) (z := (⟨"com/example/tuplet/tuplet/Commands$Option", "kind", "()Lcom/example/tuplet/tuplet/Commands$Kind;"⟩ : MethodName)) hown60 (mvT hZ60 (w78 hw)) (mvT hZ60 (w79 hw)) (notFace_of_selects (args := #[]) (mvT hZ60 (w81 hw))) (mvT hZ60 (w81 hw)) (mvT hZ60 (w80 hw)) (by decide) (backOf (W := 0) (rm_get_kind l Z a0 hw [] b_75 (.ref g_1) h75 n0 (Nat.le_trans Z0 sz77) p75_3 rfl) hZ60 (w82 hw) (w34 hw) (by decide) (by decide)) q84a q84c (g := (mkF m 158 #[iv p0, iv p1, iv p2, iv p3, iv p4, rv g_1, iv 0, iv 1, rv a_49, rv a_52, rv a_56, rv a_60, rv b62, rv b_75, iv 1] [(.ref b_75)])) rfl (by rw [hml]; rfl) (Steps.refl _) (argsL := []) (rest := []) (lenOf pd_9 rfl) rfl (by show 2 * 0 + _ ≤ _; exact Nat.le_of_eq rfl) (hb hby at_158) (fun _ _ => ⟨rfl, e82, (by decide : 26 + 0 ≤ _), (by decide : 60 + 0 ≤ _)⟩)
      dsimp only [Pt.U, Pt.locs, Pt.cells, Pt.slots] at X84 lq84 yq84 zq84 st84 hQ84
      subst lq84 yq84 zq84
      obtain ⟨h84, e84⟩ : ∃ z, T84.heap = z := ⟨_, rfl⟩
      rw [e84] at hQ84
      obtain ⟨rfl, N84q, he84⟩ := hQ84
      have N84 := Fr.app N82 N84q
      rw [he84] at e84
      refine go_tr st84 ?_
      show Go _ _ _ _ (T84.setTop (mkF m 161 #[iv p0, iv p1, iv p2, iv p3, iv p4, rv g_1, iv 0, iv 1, rv a_49, rv a_52, rv a_56, rv a_60, rv b62, rv b_75, iv 1] [(.ref g_1)]))
      refine go_st (fun t k => XS.aload X84.here hx rfl (hb hby at_161) rfl rfl k) ?_
      show Go _ _ _ _ (T84.setTop (mkF m 163 #[iv p0, iv p1, iv p2, iv p3, iv p4, rv g_1, iv 0, iv 1, rv a_49, rv a_52, rv a_56, rv a_60, rv b62, rv b_75, iv 1] [(.ref g_1), (.ref g_1)]))
      refine go_st (fun t k => Jvm.RoadKit.acmp (g := (mkF m 163 #[iv p0, iv p1, iv p2, iv p3, iv p4, rv g_1, iv 0, iv 1, rv a_49, rv a_52, rv a_56, rv a_60, rv b62, rv b_75, iv 1] [(.ref g_1), (.ref g_1)])) X84 hx rfl rfl rfl (pc0 := 163) (pc' := 166) (same := true) rfl (hb hby at_163) rfl (decide_eq_true rfl) (by decide) (by decide) k) ?_
      show Go _ _ _ _ (T84.setTop (mkF m 166 #[iv p0, iv p1, iv p2, iv p3, iv p4, rv g_1, iv 0, iv 1, rv a_49, rv a_52, rv a_56, rv a_60, rv b62, rv b_75, iv 1] []))
      refine go_st (fun t k => XS.aload X84.here hx rfl (hb hby at_166) rfl rfl k) ?_
      show Go _ _ _ _ (T84.setTop (mkF m 168 #[iv p0, iv p1, iv p2, iv p3, iv p4, rv g_1, iv 0, iv 1, rv a_49, rv a_52, rv a_56, rv a_60, rv b62, rv b_75, iv 1] [(.ref a_52)]))
      refine go_st (fun t k => XS.aload X84.here hx rfl (hb hby at_168) rfl rfl k) ?_
      show Go _ _ _ _ (T84.setTop (mkF m 170 #[iv p0, iv p1, iv p2, iv p3, iv p4, rv g_1, iv 0, iv 1, rv a_49, rv a_52, rv a_56, rv a_60, rv b62, rv b_75, iv 1] [(.ref b_75), (.ref a_52)]))
      obtain ⟨cq85, kq85, q85a, q85b, q85c⟩ := isOf hZ60 e84 p75_1
      obtain ⟨_, _, ⟨T85, L85, kk85, nn85⟩, -, X85, ⟨Lc85, hQ85, lq85, yq85, zq85⟩, st85⟩ := X84.virtualBack hx (y := (⟨"com/example/tuplet/tuplet/Commands$Option", "label", "()Ljava/lang/String;"⟩ : MethodName)) (z := (⟨"com/example/tuplet/tuplet/Commands$Option", "label", "()Ljava/lang/String;"⟩ : MethodName)) hown60 (mvT hZ60 (w83 hw)) (mvT hZ60 (w84 hw)) (notFace_of_selects (args := #[]) (mvT hZ60 (w86 hw))) (mvT hZ60 (w86 hw)) (mvT hZ60 (w85 hw)) (by decide) (backOf (W := 1) (rm_get_label l Z a0 hw [] b_75 (.ref a_52) h75 n0 (Nat.le_trans Z0 sz77) p75_4 rfl) hZ60 (w87 hw) (w34 hw) (by decide) (by decide)) q85a q85c (g := (mkF m 170 #[iv p0, iv p1, iv p2, iv p3, iv p4, rv g_1, iv 0, iv 1, rv a_49, rv a_52, rv a_56, rv a_60, rv b62, rv b_75, iv 1] [(.ref b_75), (.ref a_52)])) rfl (by rw [hml]; rfl) (Steps.refl _) (argsL := []) (rest := [(.ref a_52)]) (lenOf pd_7 rfl) rfl (by show 2 * 0 + _ ≤ _; exact Nat.le_of_eq rfl) (hb hby at_170) (fun _ _ => ⟨rfl, e84, (by decide : 26 + 0 ≤ _), (by decide : 60 + 0 ≤ _)⟩)
      dsimp only [Pt.U, Pt.locs, Pt.cells, Pt.slots] at X85 lq85 yq85 zq85 st85 hQ85
      subst lq85 yq85 zq85
      obtain ⟨h85, e85⟩ : ∃ z, T85.heap = z := ⟨_, rfl⟩
      rw [e85] at hQ85
      obtain ⟨rfl, N85q, he85⟩ := hQ85
      have N85 := Fr.app N84 N85q
      rw [he85] at e85
      refine go_tr st85 ?_
      show Go _ _ _ _ (T85.setTop (mkF m 173 #[iv p0, iv p1, iv p2, iv p3, iv p4, rv g_1, iv 0, iv 1, rv a_49, rv a_52, rv a_56, rv a_60, rv b62, rv b_75, iv 1] [(.ref a_52), (.ref a_52)]))
      have f87 : Exa Z h75 a_52 "java/lang/String" := (((((p52_1.keep K56).keep K60).ext E62).keep K72).keep K75)
      obtain ⟨cq86, kq86, q86a, q86b, q86c⟩ := isOf hZ60 e85 f87
      obtain ⟨_, _, ⟨T86, L86, kk86, nn86⟩, -, X86, ⟨Lc86, hQ86, lq86, yq86, zq86⟩, st86⟩ := X85.virtualBack hx (y := (⟨"java/lang/String", "equals", "(Ljava/lang/Object;)Z"⟩ : MethodName)) (z := (⟨"java/lang/String", "equals", "(Ljava/lang/Object;)Z"⟩ : MethodName)) hown60 (mvT hZ60 (w73 hw)) (mvT hZ60 (w74 hw)) (notFace_of_selects (args := #[]) (mvT hZ60 (w76 hw))) (mvT hZ60 (w76 hw)) (mvT hZ60 (w75 hw)) (by decide) (backOf (W := 0) (rm_eqsame l Z a0 hw [] a_52 h75 n0 (Nat.le_trans Z0 sz77) ) hZ60 (w77 hw) (w12 hw) (by decide) (by decide)) q86a q86c (g := (mkF m 173 #[iv p0, iv p1, iv p2, iv p3, iv p4, rv g_1, iv 0, iv 1, rv a_49, rv a_52, rv a_56, rv a_60, rv b62, rv b_75, iv 1] [(.ref a_52), (.ref a_52)])) rfl (by rw [hml]; rfl) (Steps.refl _) (argsL := [(.ref a_52)]) (rest := []) (lenOf pd_8 rfl) rfl (by show 2 * 0 + _ ≤ _; exact Nat.le_of_eq rfl) (hb hby at_173) (fun _ _ => ⟨rfl, e85, (by decide : 26 + 0 ≤ _), (by decide : 60 + 0 ≤ _)⟩)
      dsimp only [Pt.U, Pt.locs, Pt.cells, Pt.slots] at X86 lq86 yq86 zq86 st86 hQ86
      subst lq86 yq86 zq86
      obtain ⟨h86, e86⟩ : ∃ z, T86.heap = z := ⟨_, rfl⟩
      rw [e86] at hQ86
      obtain ⟨rfl, N86q, he86⟩ := hQ86
      have N86 := Fr.app N85 N86q
      rw [he86] at e86
      refine go_tr st86 ?_
      show Go _ _ _ _ (T86.setTop (mkF m 176 #[iv p0, iv p1, iv p2, iv p3, iv p4, rv g_1, iv 0, iv 1, rv a_49, rv a_52, rv a_56, rv a_60, rv b62, rv b_75, iv 1] [(.int 1)]))
      refine go_st (fun t k => XS.ifNo X86.here hx rfl (hb hby at_176) rfl ((if0 _ _).trans (feq ((by decide) : ¬ ((1 : Int32) = (0 : Int32)))).1) k) ?_
      show Go _ _ _ _ (T86.setTop (mkF m 179 #[iv p0, iv p1, iv p2, iv p3, iv p4, rv g_1, iv 0, iv 1, rv a_49, rv a_52, rv a_56, rv a_60, rv b62, rv b_75, iv 1] []))
      refine go_st (fun t k => XS.aload X86.here hx rfl (hb hby at_179) rfl rfl k) ?_
      show Go _ _ _ _ (T86.setTop (mkF m 181 #[iv p0, iv p1, iv p2, iv p3, iv p4, rv g_1, iv 0, iv 1, rv a_49, rv a_52, rv a_56, rv a_60, rv b62, rv b_75, iv 1] [(.ref a_56)]))
      refine go_st (fun t k => XS.aload X86.here hx rfl (hb hby at_181) rfl rfl k) ?_
      show Go _ _ _ _ (T86.setTop (mkF m 183 #[iv p0, iv p1, iv p2, iv p3, iv p4, rv g_1, iv 0, iv 1, rv a_49, rv a_52, rv a_56, rv a_60, rv b62, rv b_75, iv 1] [(.ref b_75), (.ref a_56)]))
      obtain ⟨cq88, kq88, q88a, q88b, q88c⟩ := isOf hZ60 e86 p75_1
      obtain ⟨_, _, ⟨T88, L88, kk88, nn88⟩, -, X88, ⟨Lc88, hQ88, lq88, yq88, zq88⟩, st88⟩ := X86.virtualBack hx (y := (⟨"com/example/tuplet/tuplet/Commands$Option", "help", "()Ljava/lang/String;"⟩ : MethodName)) (z := (⟨"com/example/tuplet/tuplet/Commands$Option", "help", "()Ljava/lang/String;"⟩ : MethodName)) hown60 (mvT hZ60 (w88 hw)) (mvT hZ60 (w89 hw)) (notFace_of_selects (args := #[]) (mvT hZ60 (w91 hw))) (mvT hZ60 (w91 hw)) (mvT hZ60 (w90 hw)) (by decide) (backOf (W := 1) (rm_get_help l Z a0 hw [] b_75 (.ref a_56) h75 n0 (Nat.le_trans Z0 sz77) p75_5 rfl) hZ60 (w92 hw) (w34 hw) (by decide) (by decide)) q88a q88c (g := (mkF m 183 #[iv p0, iv p1, iv p2, iv p3, iv p4, rv g_1, iv 0, iv 1, rv a_49, rv a_52, rv a_56, rv a_60, rv b62, rv b_75, iv 1] [(.ref b_75), (.ref a_56)])) rfl (by rw [hml]; rfl) (Steps.refl _) (argsL := []) (rest := [(.ref a_56)]) (lenOf pd_7 rfl) rfl (by show 2 * 0 + _ ≤ _; exact Nat.le_of_eq rfl) (hb hby at_183) (fun _ _ => ⟨rfl, e86, (by decide : 26 + 0 ≤ _), (by decide : 60 + 0 ≤ _)⟩)
      dsimp only [Pt.U, Pt.locs, Pt.cells, Pt.slots] at X88 lq88 yq88 zq88 st88 hQ88
      subst lq88 yq88 zq88
      obtain ⟨h88, e88⟩ : ∃ z, T88.heap = z := ⟨_, rfl⟩
      rw [e88] at hQ88
      obtain ⟨rfl, N88q, he88⟩ := hQ88
      have N88 := Fr.app N86 N88q
      rw [he88] at e88
      refine go_tr st88 ?_
      show Go _ _ _ _ (T88.setTop (mkF m 186 #[iv p0, iv p1, iv p2, iv p3, iv p4, rv g_1, iv 0, iv 1, rv a_49, rv a_52, rv a_56, rv a_60, rv b62, rv b_75, iv 1] [(.ref a_56), (.ref a_56)]))
      have f90 : Exa Z h75 a_56 "java/lang/String" := ((((p56_1.keep K60).ext E62).keep K72).keep K75)
      obtain ⟨cq89, kq89, q89a, q89b, q89c⟩ := isOf hZ60 e88 f90
      obtain ⟨_, _, ⟨T89, L89, kk89, nn89⟩, -, X89, ⟨Lc89, hQ89, lq89, yq89, zq89⟩, st89⟩ := X88.virtualBack hx (y := (⟨"java/lang/String", "equals", "(Ljava/lang/Object;)Z"⟩ : MethodName)) (z := (⟨"java/lang/String", "equals", "(Ljava/lang/Object;)Z"⟩ : MethodName)) hown60 (mvT hZ60 (w73 hw)) (mvT hZ60 (w74 hw)) (notFace_of_selects (args := #[]) (mvT hZ60 (w76 hw))) (mvT hZ60 (w76 hw)) (mvT hZ60 (w75 hw)) (by decide) (backOf (W := 0) (rm_eqsame l Z a0 hw [] a_56 h75 n0 (Nat.le_trans Z0 sz77) ) hZ60 (w77 hw) (w12 hw) (by decide) (by decide)) q89a q89c (g := (mkF m 186 #[iv p0, iv p1, iv p2, iv p3, iv p4, rv g_1, iv 0, iv 1, rv a_49, rv a_52, rv a_56, rv a_60, rv b62, rv b_75, iv 1] [(.ref a_56), (.ref a_56)])) rfl (by rw [hml]; rfl) (Steps.refl _) (argsL := [(.ref a_56)]) (rest := []) (lenOf pd_8 rfl) rfl (by show 2 * 0 + _ ≤ _; exact Nat.le_of_eq rfl) (hb hby at_186) (fun _ _ => ⟨rfl, e88, (by decide : 26 + 0 ≤ _), (by decide : 60 + 0 ≤ _)⟩)
      dsimp only [Pt.U, Pt.locs, Pt.cells, Pt.slots] at X89 lq89 yq89 zq89 st89 hQ89
      subst lq89 yq89 zq89
      obtain ⟨h89, e89⟩ : ∃ z, T89.heap = z := ⟨_, rfl⟩
      rw [e89] at hQ89
      obtain ⟨rfl, N89q, he89⟩ := hQ89
      have N89 := Fr.app N88 N89q
      rw [he89] at e89
      refine go_tr st89 ?_
      show Go _ _ _ _ (T89.setTop (mkF m 189 #[iv p0, iv p1, iv p2, iv p3, iv p4, rv g_1, iv 0, iv 1, rv a_49, rv a_52, rv a_56, rv a_60, rv b62, rv b_75, iv 1] [(.int 1)]))
      refine go_st (fun t k => XS.ifNo X89.here hx rfl (hb hby at_189) rfl ((if0 _ _).trans (feq ((by decide) : ¬ ((1 : Int32) = (0 : Int32)))).1) k) ?_
      show Go _ _ _ _ (T89.setTop (mkF m 192 #[iv p0, iv p1, iv p2, iv p3, iv p4, rv g_1, iv 0, iv 1, rv a_49, rv a_52, rv a_56, rv a_60, rv b62, rv b_75, iv 1] []))
      refine go_st (fun t k => XS.aload X89.here hx rfl (hb hby at_192) rfl rfl k) ?_
      show Go _ _ _ _ (T89.setTop (mkF m 194 #[iv p0, iv p1, iv p2, iv p3, iv p4, rv g_1, iv 0, iv 1, rv a_49, rv a_52, rv a_56, rv a_60, rv b62, rv b_75, iv 1] [(.ref b_75)]))
      obtain ⟨cq91, kq91, q91a, q91b, q91c⟩ := isOf hZ60 e89 p75_1
      obtain ⟨_, _, ⟨T91, L91, kk91, nn91⟩, -, X91, ⟨Lc91, hQ91, lq91, yq91, zq91⟩, st91⟩ := X89.virtualBack hx (y := (⟨"com/example/tuplet/tuplet/Commands$Option", "required", "()Z"⟩ : MethodName)) (z := (⟨"com/example/tuplet/tuplet/Commands$Option", "required", "()Z"⟩ : MethodName)) hown60 (mvT hZ60 (w93 hw)) (mvT hZ60 (w94 hw)) (notFace_of_selects (args := #[]) (mvT hZ60 (w96 hw))) (mvT hZ60 (w96 hw)) (mvT hZ60 (w95 hw)) (by decide) (backOf (W := 0) (rm_get_required1 l Z a0 hw [] b_75 h75 n0 (Nat.le_trans Z0 sz77) p75_6) hZ60 (w97 hw) (w34 hw) (by decide) (by decide)) q91a q91c (g := (mkF m 194 #[iv p0, iv p1, iv p2, iv p3, iv p4, rv g_1, iv 0, iv 1, rv a_49, rv a_52, rv a_56, rv a_60, rv b62, rv b_75, iv 1] [(.ref b_75)])) rfl (by rw [hml]; rfl) (Steps.refl _) (argsL := []) (rest := []) (lenOf pd_10 rfl) rfl (by show 2 * 0 + _ ≤ _; exact Nat.le_of_eq rfl) (hb hby at_194) (fun _ _ => ⟨rfl, e89, (by decide : 26 + 0 ≤ _), (by decide : 60 + 0 ≤ _)⟩)
      dsimp only [Pt.U, Pt.locs, Pt.cells, Pt.slots] at X91 lq91 yq91 zq91 st91 hQ91
      subst lq91 yq91 zq91
      obtain ⟨h91, e91⟩ : ∃ z, T91.heap = z := ⟨_, rfl⟩
      rw [e91] at hQ91
      obtain ⟨rfl, N91q, he91⟩ := hQ91
      have N91 := Fr.app N89 N91q
      rw [he91] at e91
      refine go_tr st91 ?_
      show Go _ _ _ _ (T91.setTop (mkF m 197 #[iv p0, iv p1, iv p2, iv p3, iv p4, rv g_1, iv 0, iv 1, rv a_49, rv a_52, rv a_56, rv a_60, rv b62, rv b_75, iv 1] [(.int 1)]))
      refine go_st (fun t k => XS.ifNo X91.here hx rfl (hb hby at_197) rfl ((if0 _ _).trans (feq ((by decide) : ¬ ((1 : Int32) = (0 : Int32)))).1) k) ?_
      show Go _ _ _ _ (T91.setTop (mkF m 200 #[iv p0, iv p1, iv p2, iv p3, iv p4, rv g_1, iv 0, iv 1, rv a_49, rv a_52, rv a_56, rv a_60, rv b62, rv b_75, iv 1] []))
      refine go_st (fun t k => XS.iload X91.here hx rfl (hb hby at_200) rfl k) ?_
      show Go _ _ _ _ (T91.setTop (mkF m 202 #[iv p0, iv p1, iv p2, iv p3, iv p4, rv g_1, iv 0, iv 1, rv a_49, rv a_52, rv a_56, rv a_60, rv b62, rv b_75, iv 1] [(.int 1)]))
      refine go_st (fun t k => XS.ifNo X91.here hx rfl (hb hby at_202) rfl ((if0 _ _).trans (feq ((by decide) : ¬ ((1 : Int32) = (0 : Int32)))).1) k) ?_
      show Go _ _ _ _ (T91.setTop (mkF m 205 #[iv p0, iv p1, iv p2, iv p3, iv p4, rv g_1, iv 0, iv 1, rv a_49, rv a_52, rv a_56, rv a_60, rv b62, rv b_75, iv 1] []))
      refine go_st (fun t k => XS.iconst X91.here hx rfl (hb hby at_205) k) ?_
      show Go _ _ _ _ (T91.setTop (mkF m 206 #[iv p0, iv p1, iv p2, iv p3, iv p4, rv g_1, iv 0, iv 1, rv a_49, rv a_52, rv a_56, rv a_60, rv b62, rv b_75, iv 1] [(.int 1)]))
      refine go_st (fun t k => XS.goto X91.here hx rfl (pc0 := 206) (pc' := 210) rfl (hb hby at_206) (by decide) (by decide) k) ?_
      show Go _ _ _ _ (T91.setTop (mkF m 210 #[iv p0, iv p1, iv p2, iv p3, iv p4, rv g_1, iv 0, iv 1, rv a_49, rv a_52, rv a_56, rv a_60, rv b62, rv b_75, iv 1] [(.int 1)]))
      have ke92 : Keep h0 h49 [] := (Keep.trans (Keep.refl h0 []) K49 all0)
      have ke93 : Keep h0 h52 [] := (Keep.trans ke92 K52 all0)
      have ke94 : Keep h0 h56 [] := (Keep.trans ke93 K56 all0)
      have ke95 : Keep h0 h60 [] := (Keep.trans ke94 K60 all0)
      have ke96 : Keep h0 h62 [] := (Keep.ext ke95 E62)
      have ke97 : Keep h0 h72 [] := (Keep.trans ke96 K72 (allS (Or.inr (Nat.le_trans sz70 (Nat.le_of_eq gq62.symm))) all0))
      have ke98 : Keep h0 h75 [] := (Keep.trans ke97 K75 all0)
      have sz99 : h60.size ≤ h72.size := (Nat.le_trans E62.1 K72.1)
      have sz100 : h60.size ≤ h75.size := (Nat.le_trans sz99 K75.1)
      obtain ⟨fs, hr, hrun, hended, hR⟩ := X91.leaveW hS60 (by rw [e91]; exact (Nat.le_trans (Nat.le_refl _) sz100)) (v := some (.int 1)) (fun h => by rw [Bd.returns] at h; cases h)
      refine ⟨_, _, ?_, hrun, hended, _, _, rfl, ?_, ?_, hR.1, hR.2.1, hR.2.2.1, hR.2.2.2.mono (by decide) (by decide)⟩
      · exact retN X91 hx (t := .boolean) Bd.returns (by simp) (hb hby at_210) hr
      · show Q_law _ _ _ _ _ _ _ _ _ _ _ _ _ _ _ T91.heap _
        rw [e91]
        exact ⟨rfl, N91, ke98⟩
      · show CHr Z consts_1 s.vm s.heap T91.vm T91.heap
        rw [hh, e91]
        exact CHr.trans C76 (CHv.at X91 hZ60 (hEL hw) C76.1)
  · skip
    refine go_st (fun t k => XS.ifNo X1.here hx rfl (hb hby at_14) rfl ((if0 _ _).trans (feq (hc2 : ¬ ((((p0).toUInt32 >>> ((3 : Int32) &&& 31).toUInt32).toInt32 &&& (1 : Int32)) = (0 : Int32)))).1) k) ?_
    show Go _ _ _ _ (T1.setTop (mkF m 17 #[iv p0, iv p1, iv p2, iv p3, iv p4, rv g_1, .unset, .unset, .unset, .unset, .unset, .unset, .unset, .unset, .unset] []))
    refine go_st (fun t k => XS.iconst X1.here hx rfl (hb hby at_17) k) ?_
    show Go _ _ _ _ (T1.setTop (mkF m 18 #[iv p0, iv p1, iv p2, iv p3, iv p4, rv g_1, .unset, .unset, .unset, .unset, .unset, .unset, .unset, .unset, .unset] [(.int 1)]))
    refine go_st (fun t k => XS.goto X1.here hx rfl (pc0 := 18) (pc' := 22) rfl (hb hby at_18) (by decide) (by decide) k) ?_
    show Go _ _ _ _ (T1.setTop (mkF m 22 #[iv p0, iv p1, iv p2, iv p3, iv p4, rv g_1, .unset, .unset, .unset, .unset, .unset, .unset, .unset, .unset, .unset] [(.int 1)]))
    refine go_st (fun t k => XS.istore X1.here hx rfl (hb hby at_22) rfl (l' := #[iv p0, iv p1, iv p2, iv p3, iv p4, rv g_1, iv 1, .unset, .unset, .unset, .unset, .unset, .unset, .unset, .unset]) rfl k) ?_
    show Go _ _ _ _ (T1.setTop (mkF m 24 #[iv p0, iv p1, iv p2, iv p3, iv p4, rv g_1, iv 1, .unset, .unset, .unset, .unset, .unset, .unset, .unset, .unset] []))
    refine go_st (fun t k => XS.iloadN X1.here hx rfl (hb hby at_24) rfl k) ?_
    show Go _ _ _ _ (T1.setTop (mkF m 25 #[iv p0, iv p1, iv p2, iv p3, iv p4, rv g_1, iv 1, .unset, .unset, .unset, .unset, .unset, .unset, .unset, .unset] [(.int p0)]))
    refine go_st (fun t k => XS.iconst X1.here hx rfl (hb hby at_25) k) ?_
    show Go _ _ _ _ (T1.setTop (mkF m 26 #[iv p0, iv p1, iv p2, iv p3, iv p4, rv g_1, iv 1, .unset, .unset, .unset, .unset, .unset, .unset, .unset, .unset] [(.int 4), (.int p0)]))
    refine go_st (fun t k => XS.iushr X1.here hx rfl (hb hby at_26) rfl k) ?_
    show Go _ _ _ _ (T1.setTop (mkF m 27 #[iv p0, iv p1, iv p2, iv p3, iv p4, rv g_1, iv 1, .unset, .unset, .unset, .unset, .unset, .unset, .unset, .unset] [(.int ((p0).toUInt32 >>> ((4 : Int32) &&& 31).toUInt32).toInt32)]))
    refine go_st (fun t k => XS.iconst X1.here hx rfl (hb hby at_27) k) ?_
    show Go _ _ _ _ (T1.setTop (mkF m 28 #[iv p0, iv p1, iv p2, iv p3, iv p4, rv g_1, iv 1, .unset, .unset, .unset, .unset, .unset, .unset, .unset, .unset] [(.int 1), (.int ((p0).toUInt32 >>> ((4 : Int32) &&& 31).toUInt32).toInt32)]))
    refine go_st (fun t k => XS.iand X1.here hx rfl (hb hby at_28) rfl k) ?_
    show Go _ _ _ _ (T1.setTop (mkF m 29 #[iv p0, iv p1, iv p2, iv p3, iv p4, rv g_1, iv 1, .unset, .unset, .unset, .unset, .unset, .unset, .unset, .unset] [(.int (((p0).toUInt32 >>> ((4 : Int32) &&& 31).toUInt32).toInt32 &&& (1 : Int32)))]))
    by_cases hc101 : (((p0).toUInt32 >>> ((4 : Int32) &&& 31).toUInt32).toInt32 &&& (1 : Int32)) = (0 : Int32)
    · skip
      refine go_st (fun t k => XS.ifYes X1.here hx rfl (pc0 := 29) (pc' := 36) rfl (hb hby at_29) rfl ((if0 _ _).trans (teq (hc101 : (((p0).toUInt32 >>> ((4 : Int32) &&& 31).toUInt32).toInt32 &&& (1 : Int32)) = (0 : Int32))).1) (by decide) (by decide) k) ?_
      show Go _ _ _ _ (T1.setTop (mkF m 36 #[iv p0, iv p1, iv p2, iv p3, iv p4, rv g_1, iv 1, .unset, .unset, .unset, .unset, .unset, .unset, .unset, .unset] []))
      refine go_st (fun t k => XS.iconst X1.here hx rfl (hb hby at_36) k) ?_
      show Go _ _ _ _ (T1.setTop (mkF m 37 #[iv p0, iv p1, iv p2, iv p3, iv p4, rv g_1, iv 1, .unset, .unset, .unset, .unset, .unset, .unset, .unset, .unset] [(.int 0)]))
      refine go_st (fun t k => XS.istore X1.here hx rfl (hb hby at_37) rfl (l' := #[iv p0, iv p1, iv p2, iv p3, iv p4, rv g_1, iv 1, iv 0, .unset, .unset, .unset, .unset, .unset, .unset, .unset]) rfl k) ?_
      show Go _ _ _ _ (T1.setTop (mkF m 39 #[iv p0, iv p1, iv p2, iv p3, iv p4, rv g_1, iv 1, iv 0, .unset, .unset, .unset, .unset, .unset, .unset, .unset] []))
      refine go_st (fun t k => XS.iloadN X1.here hx rfl (hb hby at_39) rfl k) ?_
      show Go _ _ _ _ (T1.setTop (mkF m 40 #[iv p0, iv p1, iv p2, iv p3, iv p4, rv g_1, iv 1, iv 0, .unset, .unset, .unset, .unset, .unset, .unset, .unset] [(.int p1)]))
      obtain ⟨_, _, ⟨T102, L102, kk102, nn102⟩, -, X102, hs2102, hg102, ⟨Lc102, hQ102, lq102, yq102, zq102, hC102⟩, st102⟩ := callSS X1 hx (y := (⟨"com/example/tuplet/tuplet/OptionAsRequiredPinLaw", "str", "(I)Ljava/lang/String;"⟩ : MethodName)) hown (mvT hZ (w7 hw)) (mvT hZ (w8 hw)) (mvT hZ (w2 hw)) (mvT hZ (w9 hw)) (by decide) (backOfSH (vm0 := s.vm) (W := 0) (rm_str l Z a0 hw [] p1 G1 h0 n0 (Nat.le_trans Z0 (Nat.le_refl _)) CS CSn O0) hZ (w9 hw) (w2 hw) (by decide) (by decide) (hEL hw) C0.1) (g := (mkF m 40 #[iv p0, iv p1, iv p2, iv p3, iv p4, rv g_1, iv 1, iv 0, .unset, .unset, .unset, .unset, .unset, .unset, .unset] [(.int p1)])) rfl (by rw [hml]; rfl) (argsL := [(.int p1)]) (rest := []) (lenOf pd_5 rfl) rfl (by show 2 * 0 + _ ≤ _; exact Nat.le_of_eq rfl) (hb hby at_40) (fun _ _ => ⟨rfl, e1, (by decide : 0 + 6 ≤ _), (by decide : 0 + 12 ≤ _)⟩)
      dsimp only [Pt.U, Pt.locs, Pt.cells, Pt.slots] at X102 hs2102 hg102 lq102 yq102 zq102 st102 hQ102 hC102
      subst lq102 yq102 zq102
      rw [e1] at hg102
      obtain ⟨X102, hS102, hZ102, hown102⟩ := rebS (vm0 := s.vm) hS0 (Nat.le_trans hk0 (Nat.le_refl _)) X102 hs2102 hg102 hZ hown
      obtain ⟨h102, e102⟩ : ∃ z, T102.heap = z := ⟨_, rfl⟩
      rw [e102] at hQ102 hg102 hC102 hS102
      obtain ⟨a_102, rfl, N102q, K102, gf102_0, lf102_0, p102_1⟩ := hQ102
      have N102 := Fr.app N1 N102q
      have C103 : CHr Z consts_1 s.vm h0 T102.vm h102 := CHr.trans C0 hC102
      refine go_tr st102 ?_
      show Go _ _ _ _ (T102.setTop (mkF m 43 #[iv p0, iv p1, iv p2, iv p3, iv p4, rv g_1, iv 1, iv 0, .unset, .unset, .unset, .unset, .unset, .unset, .unset] [(.ref a_102)]))
      refine go_st (fun t k => XS.astore X102.here hx rfl (hb hby at_43) rfl rfl (l' := #[iv p0, iv p1, iv p2, iv p3, iv p4, rv g_1, iv 1, iv 0, rv a_102, .unset, .unset, .unset, .unset, .unset, .unset]) rfl k) ?_
      show Go _ _ _ _ (T102.setTop (mkF m 45 #[iv p0, iv p1, iv p2, iv p3, iv p4, rv g_1, iv 1, iv 0, rv a_102, .unset, .unset, .unset, .unset, .unset, .unset] []))
      refine go_st (fun t k => XS.iloadN X102.here hx rfl (hb hby at_45) rfl k) ?_
      show Go _ _ _ _ (T102.setTop (mkF m 46 #[iv p0, iv p1, iv p2, iv p3, iv p4, rv g_1, iv 1, iv 0, rv a_102, .unset, .unset, .unset, .unset, .unset, .unset] [(.int p2)]))
      have oe104 : Old Z n0 h102 := (Old.keep O0 K102 all0)
      obtain ⟨_, _, ⟨T105, L105, kk105, nn105⟩, -, X105, hs2105, hg105, ⟨Lc105, hQ105, lq105, yq105, zq105, hC105⟩, st105⟩ := callSS X102 hx (y := (⟨"com/example/tuplet/tuplet/OptionAsRequiredPinLaw", "str", "(I)Ljava/lang/String;"⟩ : MethodName)) hown102 (mvT hZ102 (w7 hw)) (mvT hZ102 (w8 hw)) (mvT hZ102 (w2 hw)) (mvT hZ102 (w9 hw)) (by decide) (backOfSH (vm0 := T102.vm) (W := 0) (rm_str l Z a0 hw [] p2 G1 h102 n0 (Nat.le_trans Z0 K102.1) CS CSn oe104) hZ102 (w9 hw) (w2 hw) (by decide) (by decide) (hEL hw) C103.1) (g := (mkF m 46 #[iv p0, iv p1, iv p2, iv p3, iv p4, rv g_1, iv 1, iv 0, rv a_102, .unset, .unset, .unset, .unset, .unset, .unset] [(.int p2)])) rfl (by rw [hml]; rfl) (argsL := [(.int p2)]) (rest := []) (lenOf pd_5 rfl) rfl (by show 2 * 0 + _ ≤ _; exact Nat.le_of_eq rfl) (hb hby at_46) (fun _ _ => ⟨rfl, e102, (by decide : 6 + 6 ≤ _), (by decide : 12 + 12 ≤ _)⟩)
      dsimp only [Pt.U, Pt.locs, Pt.cells, Pt.slots] at X105 hs2105 hg105 lq105 yq105 zq105 st105 hQ105 hC105
      subst lq105 yq105 zq105
      rw [e102] at hg105
      obtain ⟨X105, hS105, hZ105, hown105⟩ := rebS (vm0 := T102.vm) hS102 (Nat.le_trans (Nat.le_refl _) (Nat.le_refl _)) X105 hs2105 hg105 hZ102 hown102
      obtain ⟨h105, e105⟩ : ∃ z, T105.heap = z := ⟨_, rfl⟩
      rw [e105] at hQ105 hg105 hC105 hS105
      obtain ⟨a_105, rfl, N105q, K105, gf105_0, lf105_0, p105_1⟩ := hQ105
      have N105 := Fr.app N102 N105q
      have C106 : CHr Z consts_1 s.vm h0 T105.vm h105 := CHr.trans C103 hC105
      refine go_tr st105 ?_
      show Go _ _ _ _ (T105.setTop (mkF m 49 #[iv p0, iv p1, iv p2, iv p3, iv p4, rv g_1, iv 1, iv 0, rv a_102, .unset, .unset, .unset, .unset, .unset, .unset] [(.ref a_105)]))
      refine go_st (fun t k => XS.astore X105.here hx rfl (hb hby at_49) rfl rfl (l' := #[iv p0, iv p1, iv p2, iv p3, iv p4, rv g_1, iv 1, iv 0, rv a_102, rv a_105, .unset, .unset, .unset, .unset, .unset]) rfl k) ?_
      show Go _ _ _ _ (T105.setTop (mkF m 51 #[iv p0, iv p1, iv p2, iv p3, iv p4, rv g_1, iv 1, iv 0, rv a_102, rv a_105, .unset, .unset, .unset, .unset, .unset] []))
      refine go_st (fun t k => XS.iloadN X105.here hx rfl (hb hby at_51) rfl k) ?_
      show Go _ _ _ _ (T105.setTop (mkF m 52 #[iv p0, iv p1, iv p2, iv p3, iv p4, rv g_1, iv 1, iv 0, rv a_102, rv a_105, .unset, .unset, .unset, .unset, .unset] [(.int p3)]))
      have oe107 : Old Z n0 h105 := (Old.keep oe104 K105 all0)
      have sz108 : h0.size ≤ h105.size := (Nat.le_trans K102.1 K105.1)
      obtain ⟨_, _, ⟨T109, L109, kk109, nn109⟩, -, X109, hs2109, hg109, ⟨Lc109, hQ109, lq109, yq109, zq109, hC109⟩, st109⟩ := callSS X105 hx (y := (⟨"com/example/tuplet/tuplet/OptionAsRequiredPinLaw", "str", "(I)Ljava/lang/String;"⟩ : MethodName)) hown105 (mvT hZ105 (w7 hw)) (mvT hZ105 (w8 hw)) (mvT hZ105 (w2 hw)) (mvT hZ105 (w9 hw)) (by decide) (backOfSH (vm0 := T105.vm) (W := 0) (rm_str l Z a0 hw [] p3 G1 h105 n0 (Nat.le_trans Z0 sz108) CS CSn oe107) hZ105 (w9 hw) (w2 hw) (by decide) (by decide) (hEL hw) C106.1) (g := (mkF m 52 #[iv p0, iv p1, iv p2, iv p3, iv p4, rv g_1, iv 1, iv 0, rv a_102, rv a_105, .unset, .unset, .unset, .unset, .unset] [(.int p3)])) rfl (by rw [hml]; rfl) (argsL := [(.int p3)]) (rest := []) (lenOf pd_5 rfl) rfl (by show 2 * 0 + _ ≤ _; exact Nat.le_of_eq rfl) (hb hby at_52) (fun _ _ => ⟨rfl, e105, (by decide : 12 + 6 ≤ _), (by decide : 24 + 12 ≤ _)⟩)
      dsimp only [Pt.U, Pt.locs, Pt.cells, Pt.slots] at X109 hs2109 hg109 lq109 yq109 zq109 st109 hQ109 hC109
      subst lq109 yq109 zq109
      rw [e105] at hg109
      obtain ⟨X109, hS109, hZ109, hown109⟩ := rebS (vm0 := T105.vm) hS105 (Nat.le_trans (Nat.le_refl _) (Nat.le_refl _)) X109 hs2109 hg109 hZ105 hown105
      obtain ⟨h109, e109⟩ : ∃ z, T109.heap = z := ⟨_, rfl⟩
      rw [e109] at hQ109 hg109 hC109 hS109
      obtain ⟨a_109, rfl, N109q, K109, gf109_0, lf109_0, p109_1⟩ := hQ109
      have N109 := Fr.app N105 N109q
      have C110 : CHr Z consts_1 s.vm h0 T109.vm h109 := CHr.trans C106 hC109
      refine go_tr st109 ?_
      show Go _ _ _ _ (T109.setTop (mkF m 55 #[iv p0, iv p1, iv p2, iv p3, iv p4, rv g_1, iv 1, iv 0, rv a_102, rv a_105, .unset, .unset, .unset, .unset, .unset] [(.ref a_109)]))
      refine go_st (fun t k => XS.astore X109.here hx rfl (hb hby at_55) rfl rfl (l' := #[iv p0, iv p1, iv p2, iv p3, iv p4, rv g_1, iv 1, iv 0, rv a_102, rv a_105, rv a_109, .unset, .unset, .unset, .unset]) rfl k) ?_
      show Go _ _ _ _ (T109.setTop (mkF m 57 #[iv p0, iv p1, iv p2, iv p3, iv p4, rv g_1, iv 1, iv 0, rv a_102, rv a_105, rv a_109, .unset, .unset, .unset, .unset] []))
      refine go_st (fun t k => XS.iload X109.here hx rfl (hb hby at_57) rfl k) ?_
      show Go _ _ _ _ (T109.setTop (mkF m 59 #[iv p0, iv p1, iv p2, iv p3, iv p4, rv g_1, iv 1, iv 0, rv a_102, rv a_105, rv a_109, .unset, .unset, .unset, .unset] [(.int 0)]))
      refine go_st (fun t k => XS.ifYes X109.here hx rfl (pc0 := 59) (pc' := 70) rfl (hb hby at_59) rfl ((if0 _ _).trans (teq ((by decide) : (0 : Int32) = (0 : Int32))).1) (by decide) (by decide) k) ?_
      show Go _ _ _ _ (T109.setTop (mkF m 70 #[iv p0, iv p1, iv p2, iv p3, iv p4, rv g_1, iv 1, iv 0, rv a_102, rv a_105, rv a_109, .unset, .unset, .unset, .unset] []))
      refine go_st (fun t k => XS.aconstNull X109.here hx rfl (hb hby at_70) k) ?_
      show Go _ _ _ _ (T109.setTop (mkF m 71 #[iv p0, iv p1, iv p2, iv p3, iv p4, rv g_1, iv 1, iv 0, rv a_102, rv a_105, rv a_109, .unset, .unset, .unset, .unset] [.null]))
      refine go_st (fun t k => XS.astore X109.here hx rfl (hb hby at_71) rfl rfl (l' := #[iv p0, iv p1, iv p2, iv p3, iv p4, rv g_1, iv 1, iv 0, rv a_102, rv a_105, rv a_109, .val .null, .unset, .unset, .unset]) rfl k) ?_
      show Go _ _ _ _ (T109.setTop (mkF m 73 #[iv p0, iv p1, iv p2, iv p3, iv p4, rv g_1, iv 1, iv 0, rv a_102, rv a_105, rv a_109, .val .null, .unset, .unset, .unset] []))
      obtain ⟨T111, h111, X111, e111, E111, A111, D111, -, st111⟩ := newO X109 hx hZ109 hown109 (w32 hw) (w33 hw) (w34 hw) e109 (g := (mkF m 73 #[iv p0, iv p1, iv p2, iv p3, iv p4, rv g_1, iv 1, iv 0, rv a_102, rv a_105, rv a_109, .val .null, .unset, .unset, .unset] [])) rfl (hb hby at_73) (by decide) (by decide)
      obtain ⟨b111, gq111⟩ : ∃ z, z = h109.size := ⟨_, rfl⟩
      rw [← gq111] at A111 D111 st111
      have C112 : CHr Z consts_1 s.vm h0 T109.vm h111 := CHr.trans C110 (CHr.ext E111 C110.1)
      have f113 : Fld Z h111 b111 "com/example/tuplet/tuplet/Commands$Option" "name" "Ljava/lang/String;" .null := D111 (Or.inr (w45 hw)) (ty := (.object "java/lang/String")) (by decide)
      have f114 : Fld Z h111 b111 "com/example/tuplet/tuplet/Commands$Option" "kind" "Lcom/example/tuplet/tuplet/Commands$Kind;" .null := D111 (Or.inr (w47 hw)) (ty := (.object "com/example/tuplet/tuplet/Commands$Kind")) (by decide)
      have f115 : Fld Z h111 b111 "com/example/tuplet/tuplet/Commands$Option" "label" "Ljava/lang/String;" .null := D111 (Or.inr (w49 hw)) (ty := (.object "java/lang/String")) (by decide)
      have f116 : Fld Z h111 b111 "com/example/tuplet/tuplet/Commands$Option" "help" "Ljava/lang/String;" .null := D111 (Or.inr (w51 hw)) (ty := (.object "java/lang/String")) (by decide)
      have f117 : Fld Z h111 b111 "com/example/tuplet/tuplet/Commands$Option" "required" "Z" (.int 0) := D111 (Or.inr (w53 hw)) (ty := .boolean) (by decide)
      have f118 : Fld Z h111 b111 "com/example/tuplet/tuplet/Commands$Option" "byDefault" "Ljava/lang/String;" .null := D111 (Or.inr (w55 hw)) (ty := (.object "java/lang/String")) (by decide)
      refine go_st (fun t k => st111 t k) ?_
      show Go _ _ _ _ (T111.setTop (mkF m 76 #[iv p0, iv p1, iv p2, iv p3, iv p4, rv g_1, iv 1, iv 0, rv a_102, rv a_105, rv a_109, .val .null, .unset, .unset, .unset] [(.ref b111)]))
      refine go_st (fun t k => XS.dup X111.here hx rfl (hb hby at_76) rfl rfl k) ?_
      show Go _ _ _ _ (T111.setTop (mkF m 77 #[iv p0, iv p1, iv p2, iv p3, iv p4, rv g_1, iv 1, iv 0, rv a_102, rv a_105, rv a_109, .val .null, .unset, .unset, .unset] [(.ref b111), (.ref b111)]))
      refine go_st (fun t k => XS.aload X111.here hx rfl (hb hby at_77) rfl rfl k) ?_
      show Go _ _ _ _ (T111.setTop (mkF m 79 #[iv p0, iv p1, iv p2, iv p3, iv p4, rv g_1, iv 1, iv 0, rv a_102, rv a_105, rv a_109, .val .null, .unset, .unset, .unset] [(.ref a_102), (.ref b111), (.ref b111)]))
      refine go_st (fun t k => XS.aload X111.here hx rfl (hb hby at_79) rfl rfl k) ?_
      show Go _ _ _ _ (T111.setTop (mkF m 81 #[iv p0, iv p1, iv p2, iv p3, iv p4, rv g_1, iv 1, iv 0, rv a_102, rv a_105, rv a_109, .val .null, .unset, .unset, .unset] [(.ref g_1), (.ref a_102), (.ref b111), (.ref b111)]))
      refine go_st (fun t k => XS.aload X111.here hx rfl (hb hby at_81) rfl rfl k) ?_
      show Go _ _ _ _ (T111.setTop (mkF m 83 #[iv p0, iv p1, iv p2, iv p3, iv p4, rv g_1, iv 1, iv 0, rv a_102, rv a_105, rv a_109, .val .null, .unset, .unset, .unset] [(.ref a_105), (.ref g_1), (.ref a_102), (.ref b111), (.ref b111)]))
      refine go_st (fun t k => XS.aload X111.here hx rfl (hb hby at_83) rfl rfl k) ?_
      show Go _ _ _ _ (T111.setTop (mkF m 85 #[iv p0, iv p1, iv p2, iv p3, iv p4, rv g_1, iv 1, iv 0, rv a_102, rv a_105, rv a_109, .val .null, .unset, .unset, .unset] [(.ref a_109), (.ref a_105), (.ref g_1), (.ref a_102), (.ref b111), (.ref b111)]))
      refine go_st (fun t k => XS.iload X111.here hx rfl (hb hby at_85) rfl k) ?_
      show Go _ _ _ _ (T111.setTop (mkF m 87 #[iv p0, iv p1, iv p2, iv p3, iv p4, rv g_1, iv 1, iv 0, rv a_102, rv a_105, rv a_109, .val .null, .unset, .unset, .unset] [(.int 1), (.ref a_109), (.ref a_105), (.ref g_1), (.ref a_102), (.ref b111), (.ref b111)]))
      refine go_st (fun t k => XS.aload X111.here hx rfl (hb hby at_87) rfl rfl k) ?_
      show Go _ _ _ _ (T111.setTop (mkF m 89 #[iv p0, iv p1, iv p2, iv p3, iv p4, rv g_1, iv 1, iv 0, rv a_102, rv a_105, rv a_109, .val .null, .unset, .unset, .unset] [.null, (.int 1), (.ref a_109), (.ref a_105), (.ref g_1), (.ref a_102), (.ref b111), (.ref b111)]))
      have sz119 : h0.size ≤ h109.size := (Nat.le_trans sz108 K109.1)
      have g_b111 : n0 ≤ b111 := Nat.le_trans (Nat.le_trans Z0 sz119) (Nat.le_of_eq gq111.symm)
      have sz120 : h0.size ≤ h111.size := (Nat.le_trans sz119 E111.1)
      obtain ⟨_, _, ⟨T121, L121, kk121, nn121⟩, -, X121, ⟨Lc121, hQ121, lq121, yq121, zq121⟩, st121⟩ := X111.specialBack hx (y := (⟨"com/example/tuplet/tuplet/Commands$Option", "<init>", "(Ljava/lang/String;Lcom/example/tuplet/tuplet/Commands$Kind;Ljava/lang/String;Ljava/lang/String;ZLjava/lang/String;)V"⟩ : MethodName)) rfl hown109 (mvT hZ109 (w35 hw)) (mvT hZ109 (w36 hw)) (mvT hZ109 (w37 hw)) (by decide) (backOf (W := 1) (rm_ctor1 l Z a0 hw [] b111 (.ref a_102) (.ref g_1) (.ref a_105) (.ref a_109) .null h111 n0 (Nat.le_trans Z0 sz120) A111 f113 f114 f115 f116 f117 f118 g_b111 rfl rfl rfl rfl rfl) hZ109 (w37 hw) (w34 hw) (by decide) (by decide)) (g := (mkF m 89 #[iv p0, iv p1, iv p2, iv p3, iv p4, rv g_1, iv 1, iv 0, rv a_102, rv a_105, rv a_109, .val .null, .unset, .unset, .unset] [.null, (.int 1), (.ref a_109), (.ref a_105), (.ref g_1), (.ref a_102), (.ref b111), (.ref b111)])) rfl (by rw [hml]; rfl) (Steps.refl _) (a := b111) (argsL := [(.ref a_102), (.ref g_1), (.ref a_105), (.ref a_109), (.int 1), .null]) (rest := [(.ref b111)]) (lenOf pd_2 rfl) rfl (by show 2 * 0 + _ ≤ _; exact Nat.le_of_eq rfl) (hb hby at_89) (fun _ _ => ⟨rfl, e111, (by decide : 19 + 0 ≤ _), (by decide : 42 + 0 ≤ _)⟩)
      dsimp only [Pt.U, Pt.locs, Pt.cells, Pt.slots] at X121 lq121 yq121 zq121 st121 hQ121
      subst lq121 yq121 zq121
      obtain ⟨h121, e121⟩ : ∃ z, T121.heap = z := ⟨_, rfl⟩
      rw [e121] at hQ121
      obtain ⟨rfl, N121q, K121, p121_0, p121_1, p121_2, p121_3, p121_4, p121_5, p121_6⟩ := hQ121
      have N121 := Fr.app N109 N121q
      have C122 : CHr Z consts_1 s.vm h0 T109.vm h121 := CHr.trans C112 (CHr.keep K121 (sfS (Safe.exa hZ109.alike A111 (by decide) (by decide)) sf0) C112.1)
      refine go_tr st121 ?_
      show Go _ _ _ _ (T121.setTop (mkF m 92 #[iv p0, iv p1, iv p2, iv p3, iv p4, rv g_1, iv 1, iv 0, rv a_102, rv a_105, rv a_109, .val .null, .unset, .unset, .unset] [(.ref b111)]))
      refine go_st (fun t k => XS.astore X121.here hx rfl (hb hby at_92) rfl rfl (l' := #[iv p0, iv p1, iv p2, iv p3, iv p4, rv g_1, iv 1, iv 0, rv a_102, rv a_105, rv a_109, .val .null, rv b111, .unset, .unset]) rfl k) ?_
      show Go _ _ _ _ (T121.setTop (mkF m 94 #[iv p0, iv p1, iv p2, iv p3, iv p4, rv g_1, iv 1, iv 0, rv a_102, rv a_105, rv a_109, .val .null, rv b111, .unset, .unset] []))
      refine go_st (fun t k => XS.aload X121.here hx rfl (hb hby at_94) rfl rfl k) ?_
      show Go _ _ _ _ (T121.setTop (mkF m 96 #[iv p0, iv p1, iv p2, iv p3, iv p4, rv g_1, iv 1, iv 0, rv a_102, rv a_105, rv a_109, .val .null, rv b111, .unset, .unset] [(.ref b111)]))
      have sz123 : h0.size ≤ h121.size := (Nat.le_trans sz120 K121.1)
      obtain ⟨cq124, kq124, q124a, q124b, q124c⟩ := isOf hZ109 e121 p121_0
      obtain ⟨_, _, ⟨T124, L124, kk124, nn124⟩, -, X124, ⟨Lc124, hQ124, lq124, yq124, zq124⟩, st124⟩ := X121.virtualBack hx (y := (⟨"com/example/tuplet/tuplet/Commands$Option", "asRequired", "()Lcom/example/tuplet/tuplet/Commands$Option;"⟩ : MethodName)) (z := (⟨"com/example/tuplet/tuplet/Commands$Option", "asRequired", "()Lcom/example/tuplet/tuplet/Commands$Option;"⟩ : MethodName)) hown109 (mvT hZ109 (w56 hw)) (mvT hZ109 (w57 hw)) (notFace_of_selects (args := #[]) (mvT hZ109 (w59 hw))) (mvT hZ109 (w59 hw)) (mvT hZ109 (w58 hw)) (by decide) (backOf (W := 0) (rm_asreq1 l Z a0 hw [] b111 (.ref a_102) (.ref g_1) (.ref a_105) (.ref a_109) .null h121 n0 (Nat.le_trans Z0 sz123) p121_1 p121_2 p121_3 p121_4 p121_5 p121_6 rfl rfl rfl rfl rfl) hZ109 (w60 hw) (w34 hw) (by decide) (by decide)) q124a q124c (g := (mkF m 96 #[iv p0, iv p1, iv p2, iv p3, iv p4, rv g_1, iv 1, iv 0, rv a_102, rv a_105, rv a_109, .val .null, rv b111, .unset, .unset] [(.ref b111)])) rfl (by rw [hml]; rfl) (Steps.refl _) (argsL := []) (rest := []) (lenOf pd_6 rfl) rfl (by show 2 * 0 + _ ≤ _; exact Nat.le_of_eq rfl) (hb hby at_96) (fun _ _ => ⟨rfl, e121, (by decide : 19 + 1 ≤ _), (by decide : 42 + 6 ≤ _)⟩)
      dsimp only [Pt.U, Pt.locs, Pt.cells, Pt.slots] at X124 lq124 yq124 zq124 st124 hQ124
      subst lq124 yq124 zq124
      obtain ⟨h124, e124⟩ : ∃ z, T124.heap = z := ⟨_, rfl⟩
      rw [e124] at hQ124
      obtain ⟨b_124, rfl, N124q, K124, gf124_0, lf124_0, p124_1, p124_2, p124_3, p124_4, p124_5, p124_6, p124_7⟩ := hQ124
      have N124 := Fr.app N121 N124q
      have C125 : CHr Z consts_1 s.vm h0 T109.vm h124 := CHr.trans C122 (CHr.keep K124 sf0 C122.1)
      refine go_tr st124 ?_
      show Go _ _ _ _ (T124.setTop (mkF m 99 #[iv p0, iv p1, iv p2, iv p3, iv p4, rv g_1, iv 1, iv 0, rv a_102, rv a_105, rv a_109, .val .null, rv b111, .unset, .unset] [(.ref b_124)]))
      refine go_st (fun t k => XS.astore X124.here hx rfl (hb hby at_99) rfl rfl (l' := #[iv p0, iv p1, iv p2, iv p3, iv p4, rv g_1, iv 1, iv 0, rv a_102, rv a_105, rv a_109, .val .null, rv b111, rv b_124, .unset]) rfl k) ?_
      show Go _ _ _ _ (T124.setTop (mkF m 101 #[iv p0, iv p1, iv p2, iv p3, iv p4, rv g_1, iv 1, iv 0, rv a_102, rv a_105, rv a_109, .val .null, rv b111, rv b_124, .unset] []))
      refine go_st (fun t k => XS.aload X124.here hx rfl (hb hby at_101) rfl rfl k) ?_
      show Go _ _ _ _ (T124.setTop (mkF m 103 #[iv p0, iv p1, iv p2, iv p3, iv p4, rv g_1, iv 1, iv 0, rv a_102, rv a_105, rv a_109, .val .null, rv b111, rv b_124, .unset] [(.ref b_124)]))
      refine go_st (fun t k => XS.ifnonnullYes X124.here hx rfl (pc0 := 103) (pc' := 108) rfl (hb hby at_103) rfl (by decide) (by decide) k) ?_
      show Go _ _ _ _ (T124.setTop (mkF m 108 #[iv p0, iv p1, iv p2, iv p3, iv p4, rv g_1, iv 1, iv 0, rv a_102, rv a_105, rv a_109, .val .null, rv b111, rv b_124, .unset] []))
      refine go_st (fun t k => XS.aload X124.here hx rfl (hb hby at_108) rfl rfl k) ?_
      show Go _ _ _ _ (T124.setTop (mkF m 110 #[iv p0, iv p1, iv p2, iv p3, iv p4, rv g_1, iv 1, iv 0, rv a_102, rv a_105, rv a_109, .val .null, rv b111, rv b_124, .unset] [.null]))
      refine go_st (fun t k => XS.ifnonnullNo X124.here hx rfl (hb hby at_110) rfl k) ?_
      show Go _ _ _ _ (T124.setTop (mkF m 113 #[iv p0, iv p1, iv p2, iv p3, iv p4, rv g_1, iv 1, iv 0, rv a_102, rv a_105, rv a_109, .val .null, rv b111, rv b_124, .unset] []))
      refine go_st (fun t k => XS.aload X124.here hx rfl (hb hby at_113) rfl rfl k) ?_
      show Go _ _ _ _ (T124.setTop (mkF m 115 #[iv p0, iv p1, iv p2, iv p3, iv p4, rv g_1, iv 1, iv 0, rv a_102, rv a_105, rv a_109, .val .null, rv b111, rv b_124, .unset] [(.ref b_124)]))
      have sz126 : h0.size ≤ h124.size := (Nat.le_trans sz123 K124.1)
      obtain ⟨cq127, kq127, q127a, q127b, q127c⟩ := isOf hZ109 e124 p124_1
      obtain ⟨_, _, ⟨T127, L127, kk127, nn127⟩, -, X127, ⟨Lc127, hQ127, lq127, yq127, zq127⟩, st127⟩ := X124.virtualBack hx (y := (⟨"com/example/tuplet/tuplet/Commands$Option", "byDefault", "()Ljava/lang/String;"⟩ : MethodName)) (z := (⟨"com/example/tuplet/tuplet/Commands$Option", "byDefault", "()Ljava/lang/String;"⟩ : MethodName)) hown109 (mvT hZ109 (w63 hw)) (mvT hZ109 (w64 hw)) (notFace_of_selects (args := #[]) (mvT hZ109 (w66 hw))) (mvT hZ109 (w66 hw)) (mvT hZ109 (w65 hw)) (by decide) (backOf (W := 0) (rm_get_byDefault l Z a0 hw [] b_124 .null h124 n0 (Nat.le_trans Z0 sz126) p124_7 rfl) hZ109 (w67 hw) (w34 hw) (by decide) (by decide)) q127a q127c (g := (mkF m 115 #[iv p0, iv p1, iv p2, iv p3, iv p4, rv g_1, iv 1, iv 0, rv a_102, rv a_105, rv a_109, .val .null, rv b111, rv b_124, .unset] [(.ref b_124)])) rfl (by rw [hml]; rfl) (Steps.refl _) (argsL := []) (rest := []) (lenOf pd_7 rfl) rfl (by show 2 * 0 + _ ≤ _; exact Nat.le_of_eq rfl) (hb hby at_115) (fun _ _ => ⟨rfl, e124, (by decide : 20 + 0 ≤ _), (by decide : 48 + 0 ≤ _)⟩)
      dsimp only [Pt.U, Pt.locs, Pt.cells, Pt.slots] at X127 lq127 yq127 zq127 st127 hQ127
      subst lq127 yq127 zq127
      obtain ⟨h127, e127⟩ : ∃ z, T127.heap = z := ⟨_, rfl⟩
      rw [e127] at hQ127
      obtain ⟨rfl, N127q, he127⟩ := hQ127
      have N127 := Fr.app N124 N127q
      rw [he127] at e127
      refine go_tr st127 ?_
      show Go _ _ _ _ (T127.setTop (mkF m 118 #[iv p0, iv p1, iv p2, iv p3, iv p4, rv g_1, iv 1, iv 0, rv a_102, rv a_105, rv a_109, .val .null, rv b111, rv b_124, .unset] [.null]))
      refine go_st (fun t k => XS.ifnonnullNo X127.here hx rfl (hb hby at_118) rfl k) ?_
      show Go _ _ _ _ (T127.setTop (mkF m 121 #[iv p0, iv p1, iv p2, iv p3, iv p4, rv g_1, iv 1, iv 0, rv a_102, rv a_105, rv a_109, .val .null, rv b111, rv b_124, .unset] []))
      refine go_st (fun t k => XS.iconst X127.here hx rfl (hb hby at_121) k) ?_
      show Go _ _ _ _ (T127.setTop (mkF m 122 #[iv p0, iv p1, iv p2, iv p3, iv p4, rv g_1, iv 1, iv 0, rv a_102, rv a_105, rv a_109, .val .null, rv b111, rv b_124, .unset] [(.int 1)]))
      refine go_st (fun t k => XS.goto X127.here hx rfl (pc0 := 122) (pc' := 126) rfl (hb hby at_122) (by decide) (by decide) k) ?_
      show Go _ _ _ _ (T127.setTop (mkF m 126 #[iv p0, iv p1, iv p2, iv p3, iv p4, rv g_1, iv 1, iv 0, rv a_102, rv a_105, rv a_109, .val .null, rv b111, rv b_124, .unset] [(.int 1)]))
      refine go_st (fun t k => XS.istore X127.here hx rfl (hb hby at_126) rfl (l' := #[iv p0, iv p1, iv p2, iv p3, iv p4, rv g_1, iv 1, iv 0, rv a_102, rv a_105, rv a_109, .val .null, rv b111, rv b_124, iv 1]) rfl k) ?_
      show Go _ _ _ _ (T127.setTop (mkF m 128 #[iv p0, iv p1, iv p2, iv p3, iv p4, rv g_1, iv 1, iv 0, rv a_102, rv a_105, rv a_109, .val .null, rv b111, rv b_124, iv 1] []))
      refine go_st (fun t k => XS.goto X127.here hx rfl (pc0 := 128) (pc' := 143) rfl (hb hby at_128) (by decide) (by decide) k) ?_
      show Go _ _ _ _ (T127.setTop (mkF m 143 #[iv p0, iv p1, iv p2, iv p3, iv p4, rv g_1, iv 1, iv 0, rv a_102, rv a_105, rv a_109, .val .null, rv b111, rv b_124, iv 1] []))
      refine go_st (fun t k => XS.aload X127.here hx rfl (hb hby at_143) rfl rfl k) ?_
      show Go _ _ _ _ (T127.setTop (mkF m 145 #[iv p0, iv p1, iv p2, iv p3, iv p4, rv g_1, iv 1, iv 0, rv a_102, rv a_105, rv a_109, .val .null, rv b111, rv b_124, iv 1] [(.ref a_102)]))
      refine go_st (fun t k => XS.aload X127.here hx rfl (hb hby at_145) rfl rfl k) ?_
      show Go _ _ _ _ (T127.setTop (mkF m 147 #[iv p0, iv p1, iv p2, iv p3, iv p4, rv g_1, iv 1, iv 0, rv a_102, rv a_105, rv a_109, .val .null, rv b111, rv b_124, iv 1] [(.ref b_124), (.ref a_102)]))
      obtain ⟨cq128, kq128, q128a, q128b, q128c⟩ := isOf hZ109 e127 p124_1
      obtain ⟨_, _, ⟨T128, L128, kk128, nn128⟩, -, X128, ⟨Lc128, hQ128, lq128, yq128, zq128⟩, st128⟩ := X127.virtualBack hx (y := (⟨"com/example/tuplet/tuplet/Commands$Option", "name", "()Ljava/lang/String;"⟩ : MethodName)) (z := (⟨"com/example/tuplet/tuplet/Commands$Option", "name", "()Ljava/lang/String;"⟩ : MethodName)) hown109 (mvT hZ109 (w68 hw)) (mvT hZ109 (w69 hw)) (notFace_of_selects (args := #[]) (mvT hZ109 (w71 hw))) (mvT hZ109 (w71 hw)) (mvT hZ109 (w70 hw)) (by decide) (backOf (W := 1) (rm_get_name l Z a0 hw [] b_124 (.ref a_102) h124 n0 (Nat.le_trans Z0 sz126) p124_2 rfl) hZ109 (w72 hw) (w34 hw) (by decide) (by decide)) q128a q128c (g := (mkF m 147 #[iv p0, iv p1, iv p2, iv p3, iv p4, rv g_1, iv 1, iv 0, rv a_102, rv a_105, rv a_109, .val .null, rv b111, rv b_124, iv 1] [(.ref b_124), (.ref a_102)])) rfl (by rw [hml]; rfl) (Steps.refl _) (argsL := []) (rest := [(.ref a_102)]) (lenOf pd_7 rfl) rfl (by show 2 * 0 + _ ≤ _; exact Nat.le_of_eq rfl) (hb hby at_147) (fun _ _ => ⟨rfl, e127, (by decide : 20 + 0 ≤ _), (by decide : 48 + 0 ≤ _)⟩)
      dsimp only [Pt.U, Pt.locs, Pt.cells, Pt.slots] at X128 lq128 yq128 zq128 st128 hQ128
      subst lq128 yq128 zq128
      obtain ⟨h128, e128⟩ : ∃ z, T128.heap = z := ⟨_, rfl⟩
      rw [e128] at hQ128
      obtain ⟨rfl, N128q, he128⟩ := hQ128
      have N128 := Fr.app N127 N128q
      rw [he128] at e128
      refine go_tr st128 ?_
      show Go _ _ _ _ (T128.setTop (mkF m 150 #[iv p0, iv p1, iv p2, iv p3, iv p4, rv g_1, iv 1, iv 0, rv a_102, rv a_105, rv a_109, .val .null, rv b111, rv b_124, iv 1] [(.ref a_102), (.ref a_102)]))
      have f130 : Exa Z h124 a_102 "java/lang/String" := (((((p102_1.keep K105).keep K109).ext E111).keep K121).keep K124)
      obtain ⟨cq129, kq129, q129a, q129b, q129c⟩ := isOf hZ109 e128 f130
      obtain ⟨_, _, ⟨T129, L129, kk129, nn129⟩, -, X129, ⟨Lc129, hQ129, lq129, yq129, zq129⟩, st129⟩ := X128.virtualBack hx (y := (⟨"java/lang/String", "equals", "(Ljava/lang/Object;)Z"⟩ : MethodName)) (z := (⟨"java/lang/String", "equals", "(Ljava/lang/Object;)Z"⟩ : MethodName)) hown109 (mvT hZ109 (w73 hw)) (mvT hZ109 (w74 hw)) (notFace_of_selects (args := #[]) (mvT hZ109 (w76 hw))) (mvT hZ109 (w76 hw)) (mvT hZ109 (w75 hw)) (by decide) (backOf (W := 0) (rm_eqsame l Z a0 hw [] a_102 h124 n0 (Nat.le_trans Z0 sz126) ) hZ109 (w77 hw) (w12 hw) (by decide) (by decide)) q129a q129c (g := (mkF m 150 #[iv p0, iv p1, iv p2, iv p3, iv p4, rv g_1, iv 1, iv 0, rv a_102, rv a_105, rv a_109, .val .null, rv b111, rv b_124, iv 1] [(.ref a_102), (.ref a_102)])) rfl (by rw [hml]; rfl) (Steps.refl _) (argsL := [(.ref a_102)]) (rest := []) (lenOf pd_8 rfl) rfl (by show 2 * 0 + _ ≤ _; exact Nat.le_of_eq rfl) (hb hby at_150) (fun _ _ => ⟨rfl, e128, (by decide : 20 + 0 ≤ _), (by decide : 48 + 0 ≤ _)⟩)
      dsimp only [Pt.U, Pt.locs, Pt.cells, Pt.slots] at X129 lq129 yq129 zq129 st129 hQ129
      subst lq129 yq129 zq129
      obtain ⟨h129, e129⟩ : ∃ z, T129.heap = z := ⟨_, rfl⟩
      rw [e129] at hQ129
      obtain ⟨rfl, N129q, he129⟩ := hQ129
      have N129 := Fr.app N128 N129q
      rw [he129] at e129
      refine go_tr st129 ?_
      show Go _ _ _ _ (T129.setTop (mkF m 153 #[iv p0, iv p1, iv p2, iv p3, iv p4, rv g_1, iv 1, iv 0, rv a_102, rv a_105, rv a_109, .val .null, rv b111, rv b_124, iv 1] [(.int 1)]))
      refine go_st (fun t k => XS.ifNo X129.here hx rfl (hb hby at_153) rfl ((if0 _ _).trans (feq ((by decide) : ¬ ((1 : Int32) = (0 : Int32)))).1) k) ?_
      show Go _ _ _ _ (T129.setTop (mkF m 156 #[iv p0, iv p1, iv p2, iv p3, iv p4, rv g_1, iv 1, iv 0, rv a_102, rv a_105, rv a_109, .val .null, rv b111, rv b_124, iv 1] []))
      refine go_st (fun t k => XS.aload X129.here hx rfl (hb hby at_156) rfl rfl k) ?_
      show Go _ _ _ _ (T129.setTop (mkF m 158 #[iv p0, iv p1, iv p2, iv p3, iv p4, rv g_1, iv 1, iv 0, rv a_102, rv a_105, rv a_109, .val .null, rv b111, rv b_124, iv 1] [(.ref b_124)]))
      obtain ⟨cq131, kq131, q131a, q131b, q131c⟩ := isOf hZ109 e129 p124_1
      obtain ⟨_, _, ⟨T131, L131, kk131, nn131⟩, -, X131, ⟨Lc131, hQ131, lq131, yq131, zq131⟩, st131⟩ := X129.virtualBack hx (y := (⟨"com/example/tuplet/tuplet/Commands$Option", "kind", "()Lcom/example/tuplet/tuplet/Commands$Kind;"⟩ : MethodName)) (z := (⟨"com/example/tuplet/tuplet/Commands$Option", "kind", "()Lcom/example/tuplet/tuplet/Commands$Kind;"⟩ : MethodName)) hown109 (mvT hZ109 (w78 hw)) (mvT hZ109 (w79 hw)) (notFace_of_selects (args := #[]) (mvT hZ109 (w81 hw))) (mvT hZ109 (w81 hw)) (mvT hZ109 (w80 hw)) (by decide) (backOf (W := 0) (rm_get_kind l Z a0 hw [] b_124 (.ref g_1) h124 n0 (Nat.le_trans Z0 sz126) p124_3 rfl) hZ109 (w82 hw) (w34 hw) (by decide) (by decide)) q131a q131c (g := (mkF m 158 #[iv p0, iv p1, iv p2, iv p3, iv p4, rv g_1, iv 1, iv 0, rv a_102, rv a_105, rv a_109, .val .null, rv b111, rv b_124, iv 1] [(.ref b_124)])) rfl (by rw [hml]; rfl) (Steps.refl _) (argsL := []) (rest := []) (lenOf pd_9 rfl) rfl (by show 2 * 0 + _ ≤ _; exact Nat.le_of_eq rfl) (hb hby at_158) (fun _ _ => ⟨rfl, e129, (by decide : 20 + 0 ≤ _), (by decide : 48 + 0 ≤ _)⟩)
      dsimp only [Pt.U, Pt.locs, Pt.cells, Pt.slots] at X131 lq131 yq131 zq131 st131 hQ131
      subst lq131 yq131 zq131
      obtain ⟨h131, e131⟩ : ∃ z, T131.heap = z := ⟨_, rfl⟩
      rw [e131] at hQ131
      obtain ⟨rfl, N131q, he131⟩ := hQ131
      have N131 := Fr.app N129 N131q
      rw [he131] at e131
      refine go_tr st131 ?_
      show Go _ _ _ _ (T131.setTop (mkF m 161 #[iv p0, iv p1, iv p2, iv p3, iv p4, rv g_1, iv 1, iv 0, rv a_102, rv a_105, rv a_109, .val .null, rv b111, rv b_124, iv 1] [(.ref g_1)]))
      refine go_st (fun t k => XS.aload X131.here hx rfl (hb hby at_161) rfl rfl k) ?_
      show Go _ _ _ _ (T131.setTop (mkF m 163 #[iv p0, iv p1, iv p2, iv p3, iv p4, rv g_1, iv 1, iv 0, rv a_102, rv a_105, rv a_109, .val .null, rv b111, rv b_124, iv 1] [(.ref g_1), (.ref g_1)]))
      refine go_st (fun t k => Jvm.RoadKit.acmp (g := (mkF m 163 #[iv p0, iv p1, iv p2, iv p3, iv p4, rv g_1, iv 1, iv 0, rv a_102, rv a_105, rv a_109, .val .null, rv b111, rv b_124, iv 1] [(.ref g_1), (.ref g_1)])) X131 hx rfl rfl rfl (pc0 := 163) (pc' := 166) (same := true) rfl (hb hby at_163) rfl (decide_eq_true rfl) (by decide) (by decide) k) ?_
      show Go _ _ _ _ (T131.setTop (mkF m 166 #[iv p0, iv p1, iv p2, iv p3, iv p4, rv g_1, iv 1, iv 0, rv a_102, rv a_105, rv a_109, .val .null, rv b111, rv b_124, iv 1] []))
      refine go_st (fun t k => XS.aload X131.here hx rfl (hb hby at_166) rfl rfl k) ?_
      show Go _ _ _ _ (T131.setTop (mkF m 168 #[iv p0, iv p1, iv p2, iv p3, iv p4, rv g_1, iv 1, iv 0, rv a_102, rv a_105, rv a_109, .val .null, rv b111, rv b_124, iv 1] [(.ref a_105)]))
      refine go_st (fun t k => XS.aload X131.here hx rfl (hb hby at_168) rfl rfl k) ?_
      show Go _ _ _ _ (T131.setTop (mkF m 170 #[iv p0, iv p1, iv p2, iv p3, iv p4, rv g_1, iv 1, iv 0, rv a_102, rv a_105, rv a_109, .val .null, rv b111, rv b_124, iv 1] [(.ref b_124), (.ref a_105)]))
      obtain ⟨cq132, kq132, q132a, q132b, q132c⟩ := isOf hZ109 e131 p124_1
      obtain ⟨_, _, ⟨T132, L132, kk132, nn132⟩, -, X132, ⟨Lc132, hQ132, lq132, yq132, zq132⟩, st132⟩ := X131.virtualBack hx (y := (⟨"com/example/tuplet/tuplet/Commands$Option", "label", "()Ljava/lang/String;"⟩ : MethodName)) (z := (⟨"com/example/tuplet/tuplet/Commands$Option", "label", "()Ljava/lang/String;"⟩ : MethodName)) hown109 (mvT hZ109 (w83 hw)) (mvT hZ109 (w84 hw)) (notFace_of_selects (args := #[]) (mvT hZ109 (w86 hw))) (mvT hZ109 (w86 hw)) (mvT hZ109 (w85 hw)) (by decide) (backOf (W := 1) (rm_get_label l Z a0 hw [] b_124 (.ref a_105) h124 n0 (Nat.le_trans Z0 sz126) p124_4 rfl) hZ109 (w87 hw) (w34 hw) (by decide) (by decide)) q132a q132c (g := (mkF m 170 #[iv p0, iv p1, iv p2, iv p3, iv p4, rv g_1, iv 1, iv 0, rv a_102, rv a_105, rv a_109, .val .null, rv b111, rv b_124, iv 1] [(.ref b_124), (.ref a_105)])) rfl (by rw [hml]; rfl) (Steps.refl _) (argsL := []) (rest := [(.ref a_105)]) (lenOf pd_7 rfl) rfl (by show 2 * 0 + _ ≤ _; exact Nat.le_of_eq rfl) (hb hby at_170) (fun _ _ => ⟨rfl, e131, (by decide : 20 + 0 ≤ _), (by decide : 48 + 0 ≤ _)⟩)
      dsimp only [Pt.U, Pt.locs, Pt.cells, Pt.slots] at X132 lq132 yq132 zq132 st132 hQ132
      subst lq132 yq132 zq132
      obtain ⟨h132, e132⟩ : ∃ z, T132.heap = z := ⟨_, rfl⟩
      rw [e132] at hQ132
      obtain ⟨rfl, N132q, he132⟩ := hQ132
      have N132 := Fr.app N131 N132q
      rw [he132] at e132
      refine go_tr st132 ?_
      show Go _ _ _ _ (T132.setTop (mkF m 173 #[iv p0, iv p1, iv p2, iv p3, iv p4, rv g_1, iv 1, iv 0, rv a_102, rv a_105, rv a_109, .val .null, rv b111, rv b_124, iv 1] [(.ref a_105), (.ref a_105)]))
      have f134 : Exa Z h124 a_105 "java/lang/String" := ((((p105_1.keep K109).ext E111).keep K121).keep K124)
      obtain ⟨cq133, kq133, q133a, q133b, q133c⟩ := isOf hZ109 e132 f134
      obtain ⟨_, _, ⟨T133, L133, kk133, nn133⟩, -, X133, ⟨Lc133, hQ133, lq133, yq133, zq133⟩, st133⟩ := X132.virtualBack hx (y := (⟨"java/lang/String", "equals", "(Ljava/lang/Object;)Z"⟩ : MethodName)) (z := (⟨"java/lang/String", "equals", "(Ljava/lang/Object;)Z"⟩ : MethodName)) hown109 (mvT hZ109 (w73 hw)) (mvT hZ109 (w74 hw)) (notFace_of_selects (args := #[]) (mvT hZ109 (w76 hw))) (mvT hZ109 (w76 hw)) (mvT hZ109 (w75 hw)) (by decide) (backOf (W := 0) (rm_eqsame l Z a0 hw [] a_105 h124 n0 (Nat.le_trans Z0 sz126) ) hZ109 (w77 hw) (w12 hw) (by decide) (by decide)) q133a q133c (g := (mkF m 173 #[iv p0, iv p1, iv p2, iv p3, iv p4, rv g_1, iv 1, iv 0, rv a_102, rv a_105, rv a_109, .val .null, rv b111, rv b_124, iv 1] [(.ref a_105), (.ref a_105)])) rfl (by rw [hml]; rfl) (Steps.refl _) (argsL := [(.ref a_105)]) (rest := []) (lenOf pd_8 rfl) rfl (by show 2 * 0 + _ ≤ _; exact Nat.le_of_eq rfl) (hb hby at_173) (fun _ _ => ⟨rfl, e132, (by decide : 20 + 0 ≤ _), (by decide : 48 + 0 ≤ _)⟩)
      dsimp only [Pt.U, Pt.locs, Pt.cells, Pt.slots] at X133 lq133 yq133 zq133 st133 hQ133
      subst lq133 yq133 zq133
      obtain ⟨h133, e133⟩ : ∃ z, T133.heap = z := ⟨_, rfl⟩
      rw [e133] at hQ133
      obtain ⟨rfl, N133q, he133⟩ := hQ133
      have N133 := Fr.app N132 N133q
      rw [he133] at e133
      refine go_tr st133 ?_
      show Go _ _ _ _ (T133.setTop (mkF m 176 #[iv p0, iv p1, iv p2, iv p3, iv p4, rv g_1, iv 1, iv 0, rv a_102, rv a_105, rv a_109, .val .null, rv b111, rv b_124, iv 1] [(.int 1)]))
      refine go_st (fun t k => XS.ifNo X133.here hx rfl (hb hby at_176) rfl ((if0 _ _).trans (feq ((by decide) : ¬ ((1 : Int32) = (0 : Int32)))).1) k) ?_
      show Go _ _ _ _ (T133.setTop (mkF m 179 #[iv p0, iv p1, iv p2, iv p3, iv p4, rv g_1, iv 1, iv 0, rv a_102, rv a_105, rv a_109, .val .null, rv b111, rv b_124, iv 1] []))
      refine go_st (fun t k => XS.aload X133.here hx rfl (hb hby at_179) rfl rfl k) ?_
      show Go _ _ _ _ (T133.setTop (mkF m 181 #[iv p0, iv p1, iv p2, iv p3, iv p4, rv g_1, iv 1, iv 0, rv a_102, rv a_105, rv a_109, .val .null, rv b111, rv b_124, iv 1] [(.ref a_109)]))
      refine go_st (fun t k => XS.aload X133.here hx rfl (hb hby at_181) rfl rfl k) ?_
      show Go _ _ _ _ (T133.setTop (mkF m 183 #[iv p0, iv p1, iv p2, iv p3, iv p4, rv g_1, iv 1, iv 0, rv a_102, rv a_105, rv a_109, .val .null, rv b111, rv b_124, iv 1] [(.ref b_124), (.ref a_109)]))
      obtain ⟨cq135, kq135, q135a, q135b, q135c⟩ := isOf hZ109 e133 p124_1
      obtain ⟨_, _, ⟨T135, L135, kk135, nn135⟩, -, X135, ⟨Lc135, hQ135, lq135, yq135, zq135⟩, st135⟩ := X133.virtualBack hx (y := (⟨"com/example/tuplet/tuplet/Commands$Option", "help", "()Ljava/lang/String;"⟩ : MethodName)) (z := (⟨"com/example/tuplet/tuplet/Commands$Option", "help", "()Ljava/lang/String;"⟩ : MethodName)) hown109 (mvT hZ109 (w88 hw)) (mvT hZ109 (w89 hw)) (notFace_of_selects (args := #[]) (mvT hZ109 (w91 hw))) (mvT hZ109 (w91 hw)) (mvT hZ109 (w90 hw)) (by decide) (backOf (W := 1) (rm_get_help l Z a0 hw [] b_124 (.ref a_109) h124 n0 (Nat.le_trans Z0 sz126) p124_5 rfl) hZ109 (w92 hw) (w34 hw) (by decide) (by decide)) q135a q135c (g := (mkF m 183 #[iv p0, iv p1, iv p2, iv p3, iv p4, rv g_1, iv 1, iv 0, rv a_102, rv a_105, rv a_109, .val .null, rv b111, rv b_124, iv 1] [(.ref b_124), (.ref a_109)])) rfl (by rw [hml]; rfl) (Steps.refl _) (argsL := []) (rest := [(.ref a_109)]) (lenOf pd_7 rfl) rfl (by show 2 * 0 + _ ≤ _; exact Nat.le_of_eq rfl) (hb hby at_183) (fun _ _ => ⟨rfl, e133, (by decide : 20 + 0 ≤ _), (by decide : 48 + 0 ≤ _)⟩)
      dsimp only [Pt.U, Pt.locs, Pt.cells, Pt.slots] at X135 lq135 yq135 zq135 st135 hQ135
      subst lq135 yq135 zq135
      obtain ⟨h135, e135⟩ : ∃ z, T135.heap = z := ⟨_, rfl⟩
      rw [e135] at hQ135
      obtain ⟨rfl, N135q, he135⟩ := hQ135
      have N135 := Fr.app N133 N135q
      rw [he135] at e135
      refine go_tr st135 ?_
      show Go _ _ _ _ (T135.setTop (mkF m 186 #[iv p0, iv p1, iv p2, iv p3, iv p4, rv g_1, iv 1, iv 0, rv a_102, rv a_105, rv a_109, .val .null, rv b111, rv b_124, iv 1] [(.ref a_109), (.ref a_109)]))
      have f137 : Exa Z h124 a_109 "java/lang/String" := (((p109_1.ext E111).keep K121).keep K124)
      obtain ⟨cq136, kq136, q136a, q136b, q136c⟩ := isOf hZ109 e135 f137
      obtain ⟨_, _, ⟨T136, L136, kk136, nn136⟩, -, X136, ⟨Lc136, hQ136, lq136, yq136, zq136⟩, st136⟩ := X135.virtualBack hx (y := (⟨"java/lang/String", "equals", "(Ljava/lang/Object;)Z"⟩ : MethodName)) (z := (⟨"java/lang/String", "equals", "(Ljava/lang/Object;)Z"⟩ : MethodName)) hown109 (mvT hZ109 (w73 hw)) (mvT hZ109 (w74 hw)) (notFace_of_selects (args := #[]) (mvT hZ109 (w76 hw))) (mvT hZ109 (w76 hw)) (mvT hZ109 (w75 hw)) (by decide) (backOf (W := 0) (rm_eqsame l Z a0 hw [] a_109 h124 n0 (Nat.le_trans Z0 sz126) ) hZ109 (w77 hw) (w12 hw) (by decide) (by decide)) q136a q136c (g := (mkF m 186 #[iv p0, iv p1, iv p2, iv p3, iv p4, rv g_1, iv 1, iv 0, rv a_102, rv a_105, rv a_109, .val .null, rv b111, rv b_124, iv 1] [(.ref a_109), (.ref a_109)])) rfl (by rw [hml]; rfl) (Steps.refl _) (argsL := [(.ref a_109)]) (rest := []) (lenOf pd_8 rfl) rfl (by show 2 * 0 + _ ≤ _; exact Nat.le_of_eq rfl) (hb hby at_186) (fun _ _ => ⟨rfl, e135, (by decide : 20 + 0 ≤ _), (by decide : 48 + 0 ≤ _)⟩)
      dsimp only [Pt.U, Pt.locs, Pt.cells, Pt.slots] at X136 lq136 yq136 zq136 st136 hQ136
      subst lq136 yq136 zq136
      obtain ⟨h136, e136⟩ : ∃ z, T136.heap = z := ⟨_, rfl⟩
      rw [e136] at hQ136
      obtain ⟨rfl, N136q, he136⟩ := hQ136
      have N136 := Fr.app N135 N136q
      rw [he136] at e136
      refine go_tr st136 ?_
      show Go _ _ _ _ (T136.setTop (mkF m 189 #[iv p0, iv p1, iv p2, iv p3, iv p4, rv g_1, iv 1, iv 0, rv a_102, rv a_105, rv a_109, .val .null, rv b111, rv b_124, iv 1] [(.int 1)]))
      refine go_st (fun t k => XS.ifNo X136.here hx rfl (hb hby at_189) rfl ((if0 _ _).trans (feq ((by decide) : ¬ ((1 : Int32) = (0 : Int32)))).1) k) ?_
      show Go _ _ _ _ (T136.setTop (mkF m 192 #[iv p0, iv p1, iv p2, iv p3, iv p4, rv g_1, iv 1, iv 0, rv a_102, rv a_105, rv a_109, .val .null, rv b111, rv b_124, iv 1] []))
      refine go_st (fun t k => XS.aload X136.here hx rfl (hb hby at_192) rfl rfl k) ?_
      show Go _ _ _ _ (T136.setTop (mkF m 194 #[iv p0, iv p1, iv p2, iv p3, iv p4, rv g_1, iv 1, iv 0, rv a_102, rv a_105, rv a_109, .val .null, rv b111, rv b_124, iv 1] [(.ref b_124)]))
      obtain ⟨cq138, kq138, q138a, q138b, q138c⟩ := isOf hZ109 e136 p124_1
      obtain ⟨_, _, ⟨T138, L138, kk138, nn138⟩, -, X138, ⟨Lc138, hQ138, lq138, yq138, zq138⟩, st138⟩ := X136.virtualBack hx (y := (⟨"com/example/tuplet/tuplet/Commands$Option", "required", "()Z"⟩ : MethodName)) (z := (⟨"com/example/tuplet/tuplet/Commands$Option", "required", "()Z"⟩ : MethodName)) hown109 (mvT hZ109 (w93 hw)) (mvT hZ109 (w94 hw)) (notFace_of_selects (args := #[]) (mvT hZ109 (w96 hw))) (mvT hZ109 (w96 hw)) (mvT hZ109 (w95 hw)) (by decide) (backOf (W := 0) (rm_get_required1 l Z a0 hw [] b_124 h124 n0 (Nat.le_trans Z0 sz126) p124_6) hZ109 (w97 hw) (w34 hw) (by decide) (by decide)) q138a q138c (g := (mkF m 194 #[iv p0, iv p1, iv p2, iv p3, iv p4, rv g_1, iv 1, iv 0, rv a_102, rv a_105, rv a_109, .val .null, rv b111, rv b_124, iv 1] [(.ref b_124)])) rfl (by rw [hml]; rfl) (Steps.refl _) (argsL := []) (rest := []) (lenOf pd_10 rfl) rfl (by show 2 * 0 + _ ≤ _; exact Nat.le_of_eq rfl) (hb hby at_194) (fun _ _ => ⟨rfl, e136, (by decide : 20 + 0 ≤ _), (by decide : 48 + 0 ≤ _)⟩)
      dsimp only [Pt.U, Pt.locs, Pt.cells, Pt.slots] at X138 lq138 yq138 zq138 st138 hQ138
      subst lq138 yq138 zq138
      obtain ⟨h138, e138⟩ : ∃ z, T138.heap = z := ⟨_, rfl⟩
      rw [e138] at hQ138
      obtain ⟨rfl, N138q, he138⟩ := hQ138
      have N138 := Fr.app N136 N138q
      rw [he138] at e138
      refine go_tr st138 ?_
      show Go _ _ _ _ (T138.setTop (mkF m 197 #[iv p0, iv p1, iv p2, iv p3, iv p4, rv g_1, iv 1, iv 0, rv a_102, rv a_105, rv a_109, .val .null, rv b111, rv b_124, iv 1] [(.int 1)]))
      refine go_st (fun t k => XS.ifNo X138.here hx rfl (hb hby at_197) rfl ((if0 _ _).trans (feq ((by decide) : ¬ ((1 : Int32) = (0 : Int32)))).1) k) ?_
      show Go _ _ _ _ (T138.setTop (mkF m 200 #[iv p0, iv p1, iv p2, iv p3, iv p4, rv g_1, iv 1, iv 0, rv a_102, rv a_105, rv a_109, .val .null, rv b111, rv b_124, iv 1] []))
      refine go_st (fun t k => XS.iload X138.here hx rfl (hb hby at_200) rfl k) ?_
      show Go _ _ _ _ (T138.setTop (mkF m 202 #[iv p0, iv p1, iv p2, iv p3, iv p4, rv g_1, iv 1, iv 0, rv a_102, rv a_105, rv a_109, .val .null, rv b111, rv b_124, iv 1] [(.int 1)]))
      refine go_st (fun t k => XS.ifNo X138.here hx rfl (hb hby at_202) rfl ((if0 _ _).trans (feq ((by decide) : ¬ ((1 : Int32) = (0 : Int32)))).1) k) ?_
      show Go _ _ _ _ (T138.setTop (mkF m 205 #[iv p0, iv p1, iv p2, iv p3, iv p4, rv g_1, iv 1, iv 0, rv a_102, rv a_105, rv a_109, .val .null, rv b111, rv b_124, iv 1] []))
      refine go_st (fun t k => XS.iconst X138.here hx rfl (hb hby at_205) k) ?_
      show Go _ _ _ _ (T138.setTop (mkF m 206 #[iv p0, iv p1, iv p2, iv p3, iv p4, rv g_1, iv 1, iv 0, rv a_102, rv a_105, rv a_109, .val .null, rv b111, rv b_124, iv 1] [(.int 1)]))
      refine go_st (fun t k => XS.goto X138.here hx rfl (pc0 := 206) (pc' := 210) rfl (hb hby at_206) (by decide) (by decide) k) ?_
      show Go _ _ _ _ (T138.setTop (mkF m 210 #[iv p0, iv p1, iv p2, iv p3, iv p4, rv g_1, iv 1, iv 0, rv a_102, rv a_105, rv a_109, .val .null, rv b111, rv b_124, iv 1] [(.int 1)]))
      have ke139 : Keep h0 h102 [] := (Keep.trans (Keep.refl h0 []) K102 all0)
      have ke140 : Keep h0 h105 [] := (Keep.trans ke139 K105 all0)
      have ke141 : Keep h0 h109 [] := (Keep.trans ke140 K109 all0)
      have ke142 : Keep h0 h111 [] := (Keep.ext ke141 E111)
      have ke143 : Keep h0 h121 [] := (Keep.trans ke142 K121 (allS (Or.inr (Nat.le_trans sz119 (Nat.le_of_eq gq111.symm))) all0))
      have ke144 : Keep h0 h124 [] := (Keep.trans ke143 K124 all0)
      have sz145 : h109.size ≤ h121.size := (Nat.le_trans E111.1 K121.1)
      have sz146 : h109.size ≤ h124.size := (Nat.le_trans sz145 K124.1)
      obtain ⟨fs, hr, hrun, hended, hR⟩ := X138.leaveW hS109 (by rw [e138]; exact (Nat.le_trans (Nat.le_refl _) sz146)) (v := some (.int 1)) (fun h => by rw [Bd.returns] at h; cases h)
      refine ⟨_, _, ?_, hrun, hended, _, _, rfl, ?_, ?_, hR.1, hR.2.1, hR.2.2.1, hR.2.2.2.mono (by decide) (by decide)⟩
      · exact retN X138 hx (t := .boolean) Bd.returns (by simp) (hb hby at_210) hr
      · show Q_law _ _ _ _ _ _ _ _ _ _ _ _ _ _ _ T138.heap _
        rw [e138]
        exact ⟨rfl, N138, ke144⟩
      · show CHr Z consts_1 s.vm s.heap T138.vm T138.heap
        rw [hh, e138]
        exact CHr.trans C125 (CHv.at X138 hZ109 (hEL hw) C125.1)
    · skip
      refine go_st (fun t k => XS.ifNo X1.here hx rfl (hb hby at_29) rfl ((if0 _ _).trans (feq (hc101 : ¬ ((((p0).toUInt32 >>> ((4 : Int32) &&& 31).toUInt32).toInt32 &&& (1 : Int32)) = (0 : Int32)))).1) k) ?_
      show Go _ _ _ _ (T1.setTop (mkF m 32 #[iv p0, iv p1, iv p2, iv p3, iv p4, rv g_1, iv 1, .unset, .unset, .unset, .unset, .unset, .unset, .unset, .unset] []))
      refine go_st (fun t k => XS.iconst X1.here hx rfl (hb hby at_32) k) ?_
      show Go _ _ _ _ (T1.setTop (mkF m 33 #[iv p0, iv p1, iv p2, iv p3, iv p4, rv g_1, iv 1, .unset, .unset, .unset, .unset, .unset, .unset, .unset, .unset] [(.int 1)]))
      refine go_st (fun t k => XS.goto X1.here hx rfl (pc0 := 33) (pc' := 37) rfl (hb hby at_33) (by decide) (by decide) k) ?_
      show Go _ _ _ _ (T1.setTop (mkF m 37 #[iv p0, iv p1, iv p2, iv p3, iv p4, rv g_1, iv 1, .unset, .unset, .unset, .unset, .unset, .unset, .unset, .unset] [(.int 1)]))
      refine go_st (fun t k => XS.istore X1.here hx rfl (hb hby at_37) rfl (l' := #[iv p0, iv p1, iv p2, iv p3, iv p4, rv g_1, iv 1, iv 1, .unset, .unset, .unset, .unset, .unset, .unset, .unset]) rfl k) ?_
      show Go _ _ _ _ (T1.setTop (mkF m 39 #[iv p0, iv p1, iv p2, iv p3, iv p4, rv g_1, iv 1, iv 1, .unset, .unset, .unset, .unset, .unset, .unset, .unset] []))
      refine go_st (fun t k => XS.iloadN X1.here hx rfl (hb hby at_39) rfl k) ?_
      show Go _ _ _ _ (T1.setTop (mkF m 40 #[iv p0, iv p1, iv p2, iv p3, iv p4, rv g_1, iv 1, iv 1, .unset, .unset, .unset, .unset, .unset, .unset, .unset] [(.int p1)]))
      obtain ⟨_, _, ⟨T147, L147, kk147, nn147⟩, -, X147, hs2147, hg147, ⟨Lc147, hQ147, lq147, yq147, zq147, hC147⟩, st147⟩ := callSS X1 hx (y := (⟨"com/example/tuplet/tuplet/OptionAsRequiredPinLaw", "str", "(I)Ljava/lang/String;"⟩ : MethodName)) hown (mvT hZ (w7 hw)) (mvT hZ (w8 hw)) (mvT hZ (w2 hw)) (mvT hZ (w9 hw)) (by decide) (backOfSH (vm0 := s.vm) (W := 0) (rm_str l Z a0 hw [] p1 G1 h0 n0 (Nat.le_trans Z0 (Nat.le_refl _)) CS CSn O0) hZ (w9 hw) (w2 hw) (by decide) (by decide) (hEL hw) C0.1) (g := (mkF m 40 #[iv p0, iv p1, iv p2, iv p3, iv p4, rv g_1, iv 1, iv 1, .unset, .unset, .unset, .unset, .unset, .unset, .unset] [(.int p1)])) rfl (by rw [hml]; rfl) (argsL := [(.int p1)]) (rest := []) (lenOf pd_5 rfl) rfl (by show 2 * 0 + _ ≤ _; exact Nat.le_of_eq rfl) (hb hby at_40) (fun _ _ => ⟨rfl, e1, (by decide : 0 + 6 ≤ _), (by decide : 0 + 12 ≤ _)⟩)
      dsimp only [Pt.U, Pt.locs, Pt.cells, Pt.slots] at X147 hs2147 hg147 lq147 yq147 zq147 st147 hQ147 hC147
      subst lq147 yq147 zq147
      rw [e1] at hg147
      obtain ⟨X147, hS147, hZ147, hown147⟩ := rebS (vm0 := s.vm) hS0 (Nat.le_trans hk0 (Nat.le_refl _)) X147 hs2147 hg147 hZ hown
      obtain ⟨h147, e147⟩ : ∃ z, T147.heap = z := ⟨_, rfl⟩
      rw [e147] at hQ147 hg147 hC147 hS147
      obtain ⟨a_147, rfl, N147q, K147, gf147_0, lf147_0, p147_1⟩ := hQ147
      have N147 := Fr.app N1 N147q
      have C148 : CHr Z consts_1 s.vm h0 T147.vm h147 := CHr.trans C0 hC147
      refine go_tr st147 ?_
      show Go _ _ _ _ (T147.setTop (mkF m 43 #[iv p0, iv p1, iv p2, iv p3, iv p4, rv g_1, iv 1, iv 1, .unset, .unset, .unset, .unset, .unset, .unset, .unset] [(.ref a_147)]))
      refine go_st (fun t k => XS.astore X147.here hx rfl (hb hby at_43) rfl rfl (l' := #[iv p0, iv p1, iv p2, iv p3, iv p4, rv g_1, iv 1, iv 1, rv a_147, .unset, .unset, .unset, .unset, .unset, .unset]) rfl k) ?_
      show Go _ _ _ _ (T147.setTop (mkF m 45 #[iv p0, iv p1, iv p2, iv p3, iv p4, rv g_1, iv 1, iv 1, rv a_147, .unset, .unset, .unset, .unset, .unset, .unset] []))
      refine go_st (fun t k => XS.iloadN X147.here hx rfl (hb hby at_45) rfl k) ?_
      show Go _ _ _ _ (T147.setTop (mkF m 46 #[iv p0, iv p1, iv p2, iv p3, iv p4, rv g_1, iv 1, iv 1, rv a_147, .unset, .unset, .unset, .unset, .unset, .unset] [(.int p2)]))
      have oe149 : Old Z n0 h147 := (Old.keep O0 K147 all0)
      obtain ⟨_, _, ⟨T150, L150, kk150, nn150⟩, -, X150, hs2150, hg150, ⟨Lc150, hQ150, lq150, yq150, zq150, hC150⟩, st150⟩ := callSS X147 hx (y := (⟨"com/example/tuplet/tuplet/OptionAsRequiredPinLaw", "str", "(I)Ljava/lang/String;"⟩ : MethodName)) hown147 (mvT hZ147 (w7 hw)) (mvT hZ147 (w8 hw)) (mvT hZ147 (w2 hw)) (mvT hZ147 (w9 hw)) (by decide) (backOfSH (vm0 := T147.vm) (W := 0) (rm_str l Z a0 hw [] p2 G1 h147 n0 (Nat.le_trans Z0 K147.1) CS CSn oe149) hZ147 (w9 hw) (w2 hw) (by decide) (by decide) (hEL hw) C148.1) (g := (mkF m 46 #[iv p0, iv p1, iv p2, iv p3, iv p4, rv g_1, iv 1, iv 1, rv a_147, .unset, .unset, .unset, .unset, .unset, .unset] [(.int p2)])) rfl (by rw [hml]; rfl) (argsL := [(.int p2)]) (rest := []) (lenOf pd_5 rfl) rfl (by show 2 * 0 + _ ≤ _; exact Nat.le_of_eq rfl) (hb hby at_46) (fun _ _ => ⟨rfl, e147, (by decide : 6 + 6 ≤ _), (by decide : 12 + 12 ≤ _)⟩)
      dsimp only [Pt.U, Pt.locs, Pt.cells, Pt.slots] at X150 hs2150 hg150 lq150 yq150 zq150 st150 hQ150 hC150
      subst lq150 yq150 zq150
      rw [e147] at hg150
      obtain ⟨X150, hS150, hZ150, hown150⟩ := rebS (vm0 := T147.vm) hS147 (Nat.le_trans (Nat.le_refl _) (Nat.le_refl _)) X150 hs2150 hg150 hZ147 hown147
      obtain ⟨h150, e150⟩ : ∃ z, T150.heap = z := ⟨_, rfl⟩
      rw [e150] at hQ150 hg150 hC150 hS150
      obtain ⟨a_150, rfl, N150q, K150, gf150_0, lf150_0, p150_1⟩ := hQ150
      have N150 := Fr.app N147 N150q
      have C151 : CHr Z consts_1 s.vm h0 T150.vm h150 := CHr.trans C148 hC150
      refine go_tr st150 ?_
      show Go _ _ _ _ (T150.setTop (mkF m 49 #[iv p0, iv p1, iv p2, iv p3, iv p4, rv g_1, iv 1, iv 1, rv a_147, .unset, .unset, .unset, .unset, .unset, .unset] [(.ref a_150)]))
      refine go_st (fun t k => XS.astore X150.here hx rfl (hb hby at_49) rfl rfl (l' := #[iv p0, iv p1, iv p2, iv p3, iv p4, rv g_1, iv 1, iv 1, rv a_147, rv a_150, .unset, .unset, .unset, .unset, .unset]) rfl k) ?_
      show Go _ _ _ _ (T150.setTop (mkF m 51 #[iv p0, iv p1, iv p2, iv p3, iv p4, rv g_1, iv 1, iv 1, rv a_147, rv a_150, .unset, .unset, .unset, .unset, .unset] []))
      refine go_st (fun t k => XS.iloadN X150.here hx rfl (hb hby at_51) rfl k) ?_
      show Go _ _ _ _ (T150.setTop (mkF m 52 #[iv p0, iv p1, iv p2, iv p3, iv p4, rv g_1, iv 1, iv 1, rv a_147, rv a_150, .unset, .unset, .unset, .unset, .unset] [(.int p3)]))
      have oe152 : Old Z n0 h150 := (Old.keep oe149 K150 all0)
      have sz153 : h0.size ≤ h150.size := (Nat.le_trans K147.1 K150.1)
      obtain ⟨_, _, ⟨T154, L154, kk154, nn154⟩, -, X154, hs2154, hg154, ⟨Lc154, hQ154, lq154, yq154, zq154, hC154⟩, st154⟩ := callSS X150 hx (y := (⟨"com/example/tuplet/tuplet/OptionAsRequiredPinLaw", "str", "(I)Ljava/lang/String;"⟩ : MethodName)) hown150 (mvT hZ150 (w7 hw)) (mvT hZ150 (w8 hw)) (mvT hZ150 (w2 hw)) (mvT hZ150 (w9 hw)) (by decide) (backOfSH (vm0 := T150.vm) (W := 0) (rm_str l Z a0 hw [] p3 G1 h150 n0 (Nat.le_trans Z0 sz153) CS CSn oe152) hZ150 (w9 hw) (w2 hw) (by decide) (by decide) (hEL hw) C151.1) (g := (mkF m 52 #[iv p0, iv p1, iv p2, iv p3, iv p4, rv g_1, iv 1, iv 1, rv a_147, rv a_150, .unset, .unset, .unset, .unset, .unset] [(.int p3)])) rfl (by rw [hml]; rfl) (argsL := [(.int p3)]) (rest := []) (lenOf pd_5 rfl) rfl (by show 2 * 0 + _ ≤ _; exact Nat.le_of_eq rfl) (hb hby at_52) (fun _ _ => ⟨rfl, e150, (by decide : 12 + 6 ≤ _), (by decide : 24 + 12 ≤ _)⟩)
      dsimp only [Pt.U, Pt.locs, Pt.cells, Pt.slots] at X154 hs2154 hg154 lq154 yq154 zq154 st154 hQ154 hC154
      subst lq154 yq154 zq154
      rw [e150] at hg154
      obtain ⟨X154, hS154, hZ154, hown154⟩ := rebS (vm0 := T150.vm) hS150 (Nat.le_trans (Nat.le_refl _) (Nat.le_refl _)) X154 hs2154 hg154 hZ150 hown150
      obtain ⟨h154, e154⟩ : ∃ z, T154.heap = z := ⟨_, rfl⟩
      rw [e154] at hQ154 hg154 hC154 hS154
      obtain ⟨a_154, rfl, N154q, K154, gf154_0, lf154_0, p154_1⟩ := hQ154
      have N154 := Fr.app N150 N154q
      have C155 : CHr Z consts_1 s.vm h0 T154.vm h154 := CHr.trans C151 hC154
      refine go_tr st154 ?_
      show Go _ _ _ _ (T154.setTop (mkF m 55 #[iv p0, iv p1, iv p2, iv p3, iv p4, rv g_1, iv 1, iv 1, rv a_147, rv a_150, .unset, .unset, .unset, .unset, .unset] [(.ref a_154)]))
      refine go_st (fun t k => XS.astore X154.here hx rfl (hb hby at_55) rfl rfl (l' := #[iv p0, iv p1, iv p2, iv p3, iv p4, rv g_1, iv 1, iv 1, rv a_147, rv a_150, rv a_154, .unset, .unset, .unset, .unset]) rfl k) ?_
      show Go _ _ _ _ (T154.setTop (mkF m 57 #[iv p0, iv p1, iv p2, iv p3, iv p4, rv g_1, iv 1, iv 1, rv a_147, rv a_150, rv a_154, .unset, .unset, .unset, .unset] []))
      refine go_st (fun t k => XS.iload X154.here hx rfl (hb hby at_57) rfl k) ?_
      show Go _ _ _ _ (T154.setTop (mkF m 59 #[iv p0, iv p1, iv p2, iv p3, iv p4, rv g_1, iv 1, iv 1, rv a_147, rv a_150, rv a_154, .unset, .unset, .unset, .unset] [(.int 1)]))
      refine go_st (fun t k => XS.ifNo X154.here hx rfl (hb hby at_59) rfl ((if0 _ _).trans (feq ((by decide) : ¬ ((1 : Int32) = (0 : Int32)))).1) k) ?_
      show Go _ _ _ _ (T154.setTop (mkF m 62 #[iv p0, iv p1, iv p2, iv p3, iv p4, rv g_1, iv 1, iv 1, rv a_147, rv a_150, rv a_154, .unset, .unset, .unset, .unset] []))
      refine go_st (fun t k => XS.iload X154.here hx rfl (hb hby at_62) rfl k) ?_
      show Go _ _ _ _ (T154.setTop (mkF m 64 #[iv p0, iv p1, iv p2, iv p3, iv p4, rv g_1, iv 1, iv 1, rv a_147, rv a_150, rv a_154, .unset, .unset, .unset, .unset] [(.int p4)]))
      have oe156 : Old Z n0 h154 := (Old.keep oe152 K154 all0)
      have sz157 : h0.size ≤ h154.size := (Nat.le_trans sz153 K154.1)
      obtain ⟨_, _, ⟨T158, L158, kk158, nn158⟩, -, X158, hs2158, hg158, ⟨Lc158, hQ158, lq158, yq158, zq158, hC158⟩, st158⟩ := callSS X154 hx (y := (⟨"com/example/tuplet/tuplet/OptionAsRequiredPinLaw", "str", "(I)Ljava/lang/String;"⟩ : MethodName)) hown154 (mvT hZ154 (w7 hw)) (mvT hZ154 (w8 hw)) (mvT hZ154 (w2 hw)) (mvT hZ154 (w9 hw)) (by decide) (backOfSH (vm0 := T154.vm) (W := 0) (rm_str l Z a0 hw [] p4 G1 h154 n0 (Nat.le_trans Z0 sz157) CS CSn oe156) hZ154 (w9 hw) (w2 hw) (by decide) (by decide) (hEL hw) C155.1) (g := (mkF m 64 #[iv p0, iv p1, iv p2, iv p3, iv p4, rv g_1, iv 1, iv 1, rv a_147, rv a_150, rv a_154, .unset, .unset, .unset, .unset] [(.int p4)])) rfl (by rw [hml]; rfl) (argsL := [(.int p4)]) (rest := []) (lenOf pd_5 rfl) rfl (by show 2 * 0 + _ ≤ _; exact Nat.le_of_eq rfl) (hb hby at_64) (fun _ _ => ⟨rfl, e154, (by decide : 18 + 6 ≤ _), (by decide : 36 + 12 ≤ _)⟩)
      dsimp only [Pt.U, Pt.locs, Pt.cells, Pt.slots] at X158 hs2158 hg158 lq158 yq158 zq158 st158 hQ158 hC158
      subst lq158 yq158 zq158
      rw [e154] at hg158
      obtain ⟨X158, hS158, hZ158, hown158⟩ := rebS (vm0 := T154.vm) hS154 (Nat.le_trans (Nat.le_refl _) (Nat.le_refl _)) X158 hs2158 hg158 hZ154 hown154
      obtain ⟨h158, e158⟩ : ∃ z, T158.heap = z := ⟨_, rfl⟩
      rw [e158] at hQ158 hg158 hC158 hS158
      obtain ⟨a_158, rfl, N158q, K158, gf158_0, lf158_0, p158_1⟩ := hQ158
      have N158 := Fr.app N154 N158q
      have C159 : CHr Z consts_1 s.vm h0 T158.vm h158 := CHr.trans C155 hC158
      refine go_tr st158 ?_
      show Go _ _ _ _ (T158.setTop (mkF m 67 #[iv p0, iv p1, iv p2, iv p3, iv p4, rv g_1, iv 1, iv 1, rv a_147, rv a_150, rv a_154, .unset, .unset, .unset, .unset] [(.ref a_158)]))
      refine go_st (fun t k => XS.goto X158.here hx rfl (pc0 := 67) (pc' := 71) rfl (hb hby at_67) (by decide) (by decide) k) ?_
      show Go _ _ _ _ (T158.setTop (mkF m 71 #[iv p0, iv p1, iv p2, iv p3, iv p4, rv g_1, iv 1, iv 1, rv a_147, rv a_150, rv a_154, .unset, .unset, .unset, .unset] [(.ref a_158)]))
      refine go_st (fun t k => XS.astore X158.here hx rfl (hb hby at_71) rfl rfl (l' := #[iv p0, iv p1, iv p2, iv p3, iv p4, rv g_1, iv 1, iv 1, rv a_147, rv a_150, rv a_154, rv a_158, .unset, .unset, .unset]) rfl k) ?_
      show Go _ _ _ _ (T158.setTop (mkF m 73 #[iv p0, iv p1, iv p2, iv p3, iv p4, rv g_1, iv 1, iv 1, rv a_147, rv a_150, rv a_154, rv a_158, .unset, .unset, .unset] []))
      obtain ⟨T160, h160, X160, e160, E160, A160, D160, -, st160⟩ := newO X158 hx hZ158 hown158 (w32 hw) (w33 hw) (w34 hw) e158 (g := (mkF m 73 #[iv p0, iv p1, iv p2, iv p3, iv p4, rv g_1, iv 1, iv 1, rv a_147, rv a_150, rv a_154, rv a_158, .unset, .unset, .unset] [])) rfl (hb hby at_73) (by decide) (by decide)
      obtain ⟨b160, gq160⟩ : ∃ z, z = h158.size := ⟨_, rfl⟩
      rw [← gq160] at A160 D160 st160
      have C161 : CHr Z consts_1 s.vm h0 T158.vm h160 := CHr.trans C159 (CHr.ext E160 C159.1)
      have f162 : Fld Z h160 b160 "com/example/tuplet/tuplet/Commands$Option" "name" "Ljava/lang/String;" .null := D160 (Or.inr (w45 hw)) (ty := (.object "java/lang/String")) (by decide)
      have f163 : Fld Z h160 b160 "com/example/tuplet/tuplet/Commands$Option" "kind" "Lcom/example/tuplet/tuplet/Commands$Kind;" .null := D160 (Or.inr (w47 hw)) (ty := (.object "com/example/tuplet/tuplet/Commands$Kind")) (by decide)
      have f164 : Fld Z h160 b160 "com/example/tuplet/tuplet/Commands$Option" "label" "Ljava/lang/String;" .null := D160 (Or.inr (w49 hw)) (ty := (.object "java/lang/String")) (by decide)
      have f165 : Fld Z h160 b160 "com/example/tuplet/tuplet/Commands$Option" "help" "Ljava/lang/String;" .null := D160 (Or.inr (w51 hw)) (ty := (.object "java/lang/String")) (by decide)
      have f166 : Fld Z h160 b160 "com/example/tuplet/tuplet/Commands$Option" "required" "Z" (.int 0) := D160 (Or.inr (w53 hw)) (ty := .boolean) (by decide)
      have f167 : Fld Z h160 b160 "com/example/tuplet/tuplet/Commands$Option" "byDefault" "Ljava/lang/String;" .null := D160 (Or.inr (w55 hw)) (ty := (.object "java/lang/String")) (by decide)
      refine go_st (fun t k => st160 t k) ?_
      show Go _ _ _ _ (T160.setTop (mkF m 76 #[iv p0, iv p1, iv p2, iv p3, iv p4, rv g_1, iv 1, iv 1, rv a_147, rv a_150, rv a_154, rv a_158, .unset, .unset, .unset] [(.ref b160)]))
      refine go_st (fun t k => XS.dup X160.here hx rfl (hb hby at_76) rfl rfl k) ?_
      show Go _ _ _ _ (T160.setTop (mkF m 77 #[iv p0, iv p1, iv p2, iv p3, iv p4, rv g_1, iv 1, iv 1, rv a_147, rv a_150, rv a_154, rv a_158, .unset, .unset, .unset] [(.ref b160), (.ref b160)]))
      refine go_st (fun t k => XS.aload X160.here hx rfl (hb hby at_77) rfl rfl k) ?_
      show Go _ _ _ _ (T160.setTop (mkF m 79 #[iv p0, iv p1, iv p2, iv p3, iv p4, rv g_1, iv 1, iv 1, rv a_147, rv a_150, rv a_154, rv a_158, .unset, .unset, .unset] [(.ref a_147), (.ref b160), (.ref b160)]))
      refine go_st (fun t k => XS.aload X160.here hx rfl (hb hby at_79) rfl rfl k) ?_
      show Go _ _ _ _ (T160.setTop (mkF m 81 #[iv p0, iv p1, iv p2, iv p3, iv p4, rv g_1, iv 1, iv 1, rv a_147, rv a_150, rv a_154, rv a_158, .unset, .unset, .unset] [(.ref g_1), (.ref a_147), (.ref b160), (.ref b160)]))
      refine go_st (fun t k => XS.aload X160.here hx rfl (hb hby at_81) rfl rfl k) ?_
      show Go _ _ _ _ (T160.setTop (mkF m 83 #[iv p0, iv p1, iv p2, iv p3, iv p4, rv g_1, iv 1, iv 1, rv a_147, rv a_150, rv a_154, rv a_158, .unset, .unset, .unset] [(.ref a_150), (.ref g_1), (.ref a_147), (.ref b160), (.ref b160)]))
      refine go_st (fun t k => XS.aload X160.here hx rfl (hb hby at_83) rfl rfl k) ?_
      show Go _ _ _ _ (T160.setTop (mkF m 85 #[iv p0, iv p1, iv p2, iv p3, iv p4, rv g_1, iv 1, iv 1, rv a_147, rv a_150, rv a_154, rv a_158, .unset, .unset, .unset] [(.ref a_154), (.ref a_150), (.ref g_1), (.ref a_147), (.ref b160), (.ref b160)]))
      refine go_st (fun t k => XS.iload X160.here hx rfl (hb hby at_85) rfl k) ?_
      show Go _ _ _ _ (T160.setTop (mkF m 87 #[iv p0, iv p1, iv p2, iv p3, iv p4, rv g_1, iv 1, iv 1, rv a_147, rv a_150, rv a_154, rv a_158, .unset, .unset, .unset] [(.int 1), (.ref a_154), (.ref a_150), (.ref g_1), (.ref a_147), (.ref b160), (.ref b160)]))
      refine go_st (fun t k => XS.aload X160.here hx rfl (hb hby at_87) rfl rfl k) ?_
      show Go _ _ _ _ (T160.setTop (mkF m 89 #[iv p0, iv p1, iv p2, iv p3, iv p4, rv g_1, iv 1, iv 1, rv a_147, rv a_150, rv a_154, rv a_158, .unset, .unset, .unset] [(.ref a_158), (.int 1), (.ref a_154), (.ref a_150), (.ref g_1), (.ref a_147), (.ref b160), (.ref b160)]))
      have sz168 : h0.size ≤ h158.size := (Nat.le_trans sz157 K158.1)
      have g_b160 : n0 ≤ b160 := Nat.le_trans (Nat.le_trans Z0 sz168) (Nat.le_of_eq gq160.symm)
      have sz169 : h0.size ≤ h160.size := (Nat.le_trans sz168 E160.1)
      obtain ⟨_, _, ⟨T170, L170, kk170, nn170⟩, -, X170, ⟨Lc170, hQ170, lq170, yq170, zq170⟩, st170⟩ := X160.specialBack hx (y := (⟨"com/example/tuplet/tuplet/Commands$Option", "<init>", "(Ljava/lang/String;Lcom/example/tuplet/tuplet/Commands$Kind;Ljava/lang/String;Ljava/lang/String;ZLjava/lang/String;)V"⟩ : MethodName)) rfl hown158 (mvT hZ158 (w35 hw)) (mvT hZ158 (w36 hw)) (mvT hZ158 (w37 hw)) (by decide) (backOf (W := 1) (rm_ctor1 l Z a0 hw [] b160 (.ref a_147) (.ref g_1) (.ref a_150) (.ref a_154) (.ref a_158) h160 n0 (Nat.le_trans Z0 sz169) A160 f162 f163 f164 f165 f166 f167 g_b160 rfl rfl rfl rfl rfl) hZ158 (w37 hw) (w34 hw) (by decide) (by decide)) (g := (mkF m 89 #[iv p0, iv p1, iv p2, iv p3, iv p4, rv g_1, iv 1, iv 1, rv a_147, rv a_150, rv a_154, rv a_158, .unset, .unset, .unset] [(.ref a_158), (.int 1), (.ref a_154), (.ref a_150), (.ref g_1), (.ref a_147), (.ref b160), (.ref b160)])) rfl (by rw [hml]; rfl) (Steps.refl _) (a := b160) (argsL := [(.ref a_147), (.ref g_1), (.ref a_150), (.ref a_154), (.int 1), (.ref a_158)]) (rest := [(.ref b160)]) (lenOf pd_2 rfl) rfl (by show 2 * 0 + _ ≤ _; exact Nat.le_of_eq rfl) (hb hby at_89) (fun _ _ => ⟨rfl, e160, (by decide : 25 + 0 ≤ _), (by decide : 54 + 0 ≤ _)⟩)
      dsimp only [Pt.U, Pt.locs, Pt.cells, Pt.slots] at X170 lq170 yq170 zq170 st170 hQ170
      subst lq170 yq170 zq170
      obtain ⟨h170, e170⟩ : ∃ z, T170.heap = z := ⟨_, rfl⟩
      rw [e170] at hQ170
      obtain ⟨rfl, N170q, K170, p170_0, p170_1, p170_2, p170_3, p170_4, p170_5, p170_6⟩ := hQ170
      have N170 := Fr.app N158 N170q
      have C171 : CHr Z consts_1 s.vm h0 T158.vm h170 := CHr.trans C161 (CHr.keep K170 (sfS (Safe.exa hZ158.alike A160 (by decide) (by decide)) sf0) C161.1)
      refine go_tr st170 ?_
      show Go _ _ _ _ (T170.setTop (mkF m 92 #[iv p0, iv p1, iv p2, iv p3, iv p4, rv g_1, iv 1, iv 1, rv a_147, rv a_150, rv a_154, rv a_158, .unset, .unset, .unset] [(.ref b160)]))
      refine go_st (fun t k => XS.astore X170.here hx rfl (hb hby at_92) rfl rfl (l' := #[iv p0, iv p1, iv p2, iv p3, iv p4, rv g_1, iv 1, iv 1, rv a_147, rv a_150, rv a_154, rv a_158, rv b160, .unset, .unset]) rfl k) ?_
      show Go _ _ _ _ (T170.setTop (mkF m 94 #[iv p0, iv p1, iv p2, iv p3, iv p4, rv g_1, iv 1, iv 1, rv a_147, rv a_150, rv a_154, rv a_158, rv b160, .unset, .unset] []))
      refine go_st (fun t k => XS.aload X170.here hx rfl (hb hby at_94) rfl rfl k) ?_
      show Go _ _ _ _ (T170.setTop (mkF m 96 #[iv p0, iv p1, iv p2, iv p3, iv p4, rv g_1, iv 1, iv 1, rv a_147, rv a_150, rv a_154, rv a_158, rv b160, .unset, .unset] [(.ref b160)]))
      have sz172 : h0.size ≤ h170.size := (Nat.le_trans sz169 K170.1)
      obtain ⟨cq173, kq173, q173a, q173b, q173c⟩ := isOf hZ158 e170 p170_0
      obtain ⟨_, _, ⟨T173, L173, kk173, nn173⟩, -, X173, ⟨Lc173, hQ173, lq173, yq173, zq173⟩, st173⟩ := X170.virtualBack hx (y := (⟨"com/example/tuplet/tuplet/Commands$Option", "asRequired", "()Lcom/example/tuplet/tuplet/Commands$Option;"⟩ : MethodName)) (z := (⟨"com/example/tuplet/tuplet/Commands$Option", "asRequired", "()Lcom/example/tuplet/tuplet/Commands$Option;"⟩ : MethodName)) hown158 (mvT hZ158 (w56 hw)) (mvT hZ158 (w57 hw)) (notFace_of_selects (args := #[]) (mvT hZ158 (w59 hw))) (mvT hZ158 (w59 hw)) (mvT hZ158 (w58 hw)) (by decide) (backOf (W := 0) (rm_asreq1 l Z a0 hw [] b160 (.ref a_147) (.ref g_1) (.ref a_150) (.ref a_154) (.ref a_158) h170 n0 (Nat.le_trans Z0 sz172) p170_1 p170_2 p170_3 p170_4 p170_5 p170_6 rfl rfl rfl rfl rfl) hZ158 (w60 hw) (w34 hw) (by decide) (by decide)) q173a q173c (g := (mkF m 96 #[iv p0, iv p1, iv p2, iv p3, iv p4, rv g_1, iv 1, iv 1, rv a_147, rv a_150, rv a_154, rv a_158, rv b160, .unset, .unset] [(.ref b160)])) rfl (by rw [hml]; rfl) (Steps.refl _) (argsL := []) (rest := []) (lenOf pd_6 rfl) rfl (by show 2 * 0 + _ ≤ _; exact Nat.le_of_eq rfl) (hb hby at_96) (fun _ _ => ⟨rfl, e170, (by decide : 25 + 1 ≤ _), (by decide : 54 + 6 ≤ _)⟩)
      dsimp only [Pt.U, Pt.locs, Pt.cells, Pt.slots] at X173 lq173 yq173 zq173 st173 hQ173
      subst lq173 yq173 zq173
      obtain ⟨h173, e173⟩ : ∃ z, T173.heap = z := ⟨_, rfl⟩
      rw [e173] at hQ173
      obtain ⟨b_173, rfl, N173q, K173, gf173_0, lf173_0, p173_1, p173_2, p173_3, p173_4, p173_5, p173_6, p173_7⟩ := hQ173
      have N173 := Fr.app N170 N173q
      have C174 : CHr Z consts_1 s.vm h0 T158.vm h173 := CHr.trans C171 (CHr.keep K173 sf0 C171.1)
      refine go_tr st173 ?_
      show Go _ _ _ _ (T173.setTop (mkF m 99 #[iv p0, iv p1, iv p2, iv p3, iv p4, rv g_1, iv 1, iv 1, rv a_147, rv a_150, rv a_154, rv a_158, rv b160, .unset, .unset] [(.ref b_173)]))
      refine go_st (fun t k => XS.astore X173.here hx rfl (hb hby at_99) rfl rfl (l' := #[iv p0, iv p1, iv p2, iv p3, iv p4, rv g_1, iv 1, iv 1, rv a_147, rv a_150, rv a_154, rv a_158, rv b160, rv b_173, .unset]) rfl k) ?_
      show Go _ _ _ _ (T173.setTop (mkF m 101 #[iv p0, iv p1, iv p2, iv p3, iv p4, rv g_1, iv 1, iv 1, rv a_147, rv a_150, rv a_154, rv a_158, rv b160, rv b_173, .unset] []))
      refine go_st (fun t k => XS.aload X173.here hx rfl (hb hby at_101) rfl rfl k) ?_
      show Go _ _ _ _ (T173.setTop (mkF m 103 #[iv p0, iv p1, iv p2, iv p3, iv p4, rv g_1, iv 1, iv 1, rv a_147, rv a_150, rv a_154, rv a_158, rv b160, rv b_173, .unset] [(.ref b_173)]))
      refine go_st (fun t k => XS.ifnonnullYes X173.here hx rfl (pc0 := 103) (pc' := 108) rfl (hb hby at_103) rfl (by decide) (by decide) k) ?_
      show Go _ _ _ _ (T173.setTop (mkF m 108 #[iv p0, iv p1, iv p2, iv p3, iv p4, rv g_1, iv 1, iv 1, rv a_147, rv a_150, rv a_154, rv a_158, rv b160, rv b_173, .unset] []))
      refine go_st (fun t k => XS.aload X173.here hx rfl (hb hby at_108) rfl rfl k) ?_
      show Go _ _ _ _ (T173.setTop (mkF m 110 #[iv p0, iv p1, iv p2, iv p3, iv p4, rv g_1, iv 1, iv 1, rv a_147, rv a_150, rv a_154, rv a_158, rv b160, rv b_173, .unset] [(.ref a_158)]))
      refine go_st (fun t k => XS.ifnonnullYes X173.here hx rfl (pc0 := 110) (pc' := 131) rfl (hb hby at_110) rfl (by decide) (by decide) k) ?_
      show Go _ _ _ _ (T173.setTop (mkF m 131 #[iv p0, iv p1, iv p2, iv p3, iv p4, rv g_1, iv 1, iv 1, rv a_147, rv a_150, rv a_154, rv a_158, rv b160, rv b_173, .unset] []))
      refine go_st (fun t k => XS.aload X173.here hx rfl (hb hby at_131) rfl rfl k) ?_
      show Go _ _ _ _ (T173.setTop (mkF m 133 #[iv p0, iv p1, iv p2, iv p3, iv p4, rv g_1, iv 1, iv 1, rv a_147, rv a_150, rv a_154, rv a_158, rv b160, rv b_173, .unset] [(.ref a_158)]))
      refine go_st (fun t k => XS.aload X173.here hx rfl (hb hby at_133) rfl rfl k) ?_
      show Go _ _ _ _ (T173.setTop (mkF m 135 #[iv p0, iv p1, iv p2, iv p3, iv p4, rv g_1, iv 1, iv 1, rv a_147, rv a_150, rv a_154, rv a_158, rv b160, rv b_173, .unset] [(.ref b_173), (.ref a_158)]))
      have sz175 : h0.size ≤ h173.size := (Nat.le_trans sz172 K173.1)
      obtain ⟨cq176, kq176, q176a, q176b, q176c⟩ := isOf hZ158 e173 p173_1
      obtain ⟨_, _, ⟨T176, L176, kk176, nn176⟩, -, X176, ⟨Lc176, hQ176, lq176, yq176, zq176⟩, st176⟩ := X173.virtualBack hx (y := (⟨"com/example/tuplet/tuplet/Commands$Option", "byDefault", "()Ljava/lang/String;"⟩ : MethodName)) (z := (⟨"com/example/tuplet/tuplet/Commands$Option", "byDefault", "()Ljava/lang/String;"⟩ : MethodName)) hown158 (mvT hZ158 (w63 hw)) (mvT hZ158 (w64 hw)) (notFace_of_selects (args := #[]) (mvT hZ158 (w66 hw))) (mvT hZ158 (w66 hw)) (mvT hZ158 (w65 hw)) (by decide) (backOf (W := 1) (rm_get_byDefault l Z a0 hw [] b_173 (.ref a_158) h173 n0 (Nat.le_trans Z0 sz175) p173_7 rfl) hZ158 (w67 hw) (w34 hw) (by decide) (by decide)) q176a q176c (g := (mkF m 135 #[iv p0, iv p1, iv p2, iv p3, iv p4, rv g_1, iv 1, iv 1, rv a_147, rv a_150, rv a_154, rv a_158, rv b160, rv b_173, .unset] [(.ref b_173), (.ref a_158)])) rfl (by rw [hml]; rfl) (Steps.refl _) (argsL := []) (rest := [(.ref a_158)]) (lenOf pd_7 rfl) rfl (by show 2 * 0 + _ ≤ _; exact Nat.le_of_eq rfl) (hb hby at_135) (fun _ _ => ⟨rfl, e173, (by decide : 26 + 0 ≤ _), (by decide : 60 + 0 ≤ _)⟩)
      dsimp only [Pt.U, Pt.locs, Pt.cells, Pt.slots] at X176 lq176 yq176 zq176 st176 hQ176
      subst lq176 yq176 zq176
      obtain ⟨h176, e176⟩ : ∃ z, T176.heap = z := ⟨_, rfl⟩
      rw [e176] at hQ176
      obtain ⟨rfl, N176q, he176⟩ := hQ176
      have N176 := Fr.app N173 N176q
      rw [he176] at e176
      refine go_tr st176 ?_
      show Go _ _ _ _ (T176.setTop (mkF m 138 #[iv p0, iv p1, iv p2, iv p3, iv p4, rv g_1, iv 1, iv 1, rv a_147, rv a_150, rv a_154, rv a_158, rv b160, rv b_173, .unset] [(.ref a_158), (.ref a_158)]))
      have f178 : Exa Z h173 a_158 "java/lang/String" := (((p158_1.ext E160).keep K170).keep K173)
      obtain ⟨cq177, kq177, q177a, q177b, q177c⟩ := isOf hZ158 e176 f178
      obtain ⟨_, _, ⟨T177, L177, kk177, nn177⟩, -, X177, ⟨Lc177, hQ177, lq177, yq177, zq177⟩, st177⟩ := X176.virtualBack hx (y := (⟨"java/lang/String", "equals", "(Ljava/lang/Object;)Z"⟩ : MethodName)) (z := (⟨"java/lang/String", "equals", "(Ljava/lang/Object;)Z"⟩ : MethodName)) hown158 (mvT hZ158 (w73 hw)) (mvT hZ158 (w74 hw)) (notFace_of_selects (args := #[]) (mvT hZ158 (w76 hw))) (mvT hZ158 (w76 hw)) (mvT hZ158 (w75 hw)) (by decide) (backOf (W := 0) (rm_eqsame l Z a0 hw [] a_158 h173 n0 (Nat.le_trans Z0 sz175) ) hZ158 (w77 hw) (w12 hw) (by decide) (by decide)) q177a q177c (g := (mkF m 138 #[iv p0, iv p1, iv p2, iv p3, iv p4, rv g_1, iv 1, iv 1, rv a_147, rv a_150, rv a_154, rv a_158, rv b160, rv b_173, .unset] [(.ref a_158), (.ref a_158)])) rfl (by rw [hml]; rfl) (Steps.refl _) (argsL := [(.ref a_158)]) (rest := []) (lenOf pd_8 rfl) rfl (by show 2 * 0 + _ ≤ _; exact Nat.le_of_eq rfl) (hb hby at_138) (fun _ _ => ⟨rfl, e176, (by decide : 26 + 0 ≤ _), (by decide : 60 + 0 ≤ _)⟩)
      dsimp only [Pt.U, Pt.locs, Pt.cells, Pt.slots] at X177 lq177 yq177 zq177 st177 hQ177
      subst lq177 yq177 zq177
      obtain ⟨h177, e177⟩ : ∃ z, T177.heap = z := ⟨_, rfl⟩
      rw [e177] at hQ177
      obtain ⟨rfl, N177q, he177⟩ := hQ177
      have N177 := Fr.app N176 N177q
      rw [he177] at e177
      refine go_tr st177 ?_
      show Go _ _ _ _ (T177.setTop (mkF m 141 #[iv p0, iv p1, iv p2, iv p3, iv p4, rv g_1, iv 1, iv 1, rv a_147, rv a_150, rv a_154, rv a_158, rv b160, rv b_173, .unset] [(.int 1)]))
      refine go_st (fun t k => XS.istore X177.here hx rfl (hb hby at_141) rfl (l' := #[iv p0, iv p1, iv p2, iv p3, iv p4, rv g_1, iv 1, iv 1, rv a_147, rv a_150, rv a_154, rv a_158, rv b160, rv b_173, iv 1]) rfl k) ?_
      show Go _ _ _ _ (T177.setTop (mkF m 143 #[iv p0, iv p1, iv p2, iv p3, iv p4, rv g_1, iv 1, iv 1, rv a_147, rv a_150, rv a_154, rv a_158, rv b160, rv b_173, iv 1] []))
      refine go_st (fun t k => XS.aload X177.here hx rfl (hb hby at_143) rfl rfl k) ?_
      show Go _ _ _ _ (T177.setTop (mkF m 145 #[iv p0, iv p1, iv p2, iv p3, iv p4, rv g_1, iv 1, iv 1, rv a_147, rv a_150, rv a_154, rv a_158, rv b160, rv b_173, iv 1] [(.ref a_147)]))
      refine go_st (fun t k => XS.aload X177.here hx rfl (hb hby at_145) rfl rfl k) ?_
      show Go _ _ _ _ (T177.setTop (mkF m 147 #[iv p0, iv p1, iv p2, iv p3, iv p4, rv g_1, iv 1, iv 1, rv a_147, rv a_150, rv a_154, rv a_158, rv b160, rv b_173, iv 1] [(.ref b_173), (.ref a_147)]))
      obtain ⟨cq179, kq179, q179a, q179b, q179c⟩ := isOf hZ158 e177 p173_1
      obtain ⟨_, _, ⟨T179, L179, kk179, nn179⟩, -, X179, ⟨Lc179, hQ179, lq179, yq179, zq179⟩, st179⟩ := X177.virtualBack hx (y := (⟨"com/example/tuplet/tuplet/Commands$Option", "name", "()Ljava/lang/String;"⟩ : MethodName)) (z := (⟨"com/example/tuplet/tuplet/Commands$Option", "name", "()Ljava/lang/String;"⟩ : MethodName)) hown158 (mvT hZ158 (w68 hw)) (mvT hZ158 (w69 hw)) (notFace_of_selects (args := #[]) (mvT hZ158 (w71 hw))) (mvT hZ158 (w71 hw)) (mvT hZ158 (w70 hw)) (by decide) (backOf (W := 1) (rm_get_name l Z a0 hw [] b_173 (.ref a_147) h173 n0 (Nat.le_trans Z0 sz175) p173_2 rfl) hZ158 (w72 hw) (w34 hw) (by decide) (by decide)) q179a q179c (g := (mkF m 147 #[iv p0, iv p1, iv p2, iv p3, iv p4, rv g_1, iv 1, iv 1, rv a_147, rv a_150, rv a_154, rv a_158, rv b160, rv b_173, iv 1] [(.ref b_173), (.ref a_147)])) rfl (by rw [hml]; rfl) (Steps.refl _) (argsL := []) (rest := [(.ref a_147)]) (lenOf pd_7 rfl) rfl (by show 2 * 0 + _ ≤ _; exact Nat.le_of_eq rfl) (hb hby at_147) (fun _ _ => ⟨rfl, e177, (by decide : 26 + 0 ≤ _), (by decide : 60 + 0 ≤ _)⟩)
      dsimp only [Pt.U, Pt.locs, Pt.cells, Pt.slots] at X179 lq179 yq179 zq179 st179 hQ179
      subst lq179 yq179 zq179
      obtain ⟨h179, e179⟩ : ∃ z, T179.heap = z := ⟨_, rfl⟩
      rw [e179] at hQ179
      obtain ⟨rfl, N179q, he179⟩ := hQ179
      have N179 := Fr.app N177 N179q
      rw [he179] at e179
      refine go_tr st179 ?_
      show Go _ _ _ _ (T179.setTop (mkF m 150 #[iv p0, iv p1, iv p2, iv p3, iv p4, rv g_1, iv 1, iv 1, rv a_147, rv a_150, rv a_154, rv a_158, rv b160, rv b_173, iv 1] [(.ref a_147), (.ref a_147)]))
      have f181 : Exa Z h173 a_147 "java/lang/String" := ((((((p147_1.keep K150).keep K154).keep K158).ext E160).keep K170).keep K173)
      obtain ⟨cq180, kq180, q180a, q180b, q180c⟩ := isOf hZ158 e179 f181
      obtain ⟨_, _, ⟨T180, L180, kk180, nn180⟩, -, X180, ⟨Lc180, hQ180, lq180, yq180, zq180⟩, st180⟩ := X179.virtualBack hx (y := (⟨"java/lang/String", "equals", "(Ljava/lang/Object;)Z"⟩ : MethodName)) (z := (⟨"java/lang/String", "equals", "(Ljava/lang/Object;)Z"⟩ : MethodName)) hown158 (mvT hZ158 (w73 hw)) (mvT hZ158 (w74 hw)) (notFace_of_selects (args := #[]) (mvT hZ158 (w76 hw))) (mvT hZ158 (w76 hw)) (mvT hZ158 (w75 hw)) (by decide) (backOf (W := 0) (rm_eqsame l Z a0 hw [] a_147 h173 n0 (Nat.le_trans Z0 sz175) ) hZ158 (w77 hw) (w12 hw) (by decide) (by decide)) q180a q180c (g := (mkF m 150 #[iv p0, iv p1, iv p2, iv p3, iv p4, rv g_1, iv 1, iv 1, rv a_147, rv a_150, rv a_154, rv a_158, rv b160, rv b_173, iv 1] [(.ref a_147), (.ref a_147)])) rfl (by rw [hml]; rfl) (Steps.refl _) (argsL := [(.ref a_147)]) (rest := []) (lenOf pd_8 rfl) rfl (by show 2 * 0 + _ ≤ _; exact Nat.le_of_eq rfl) (hb hby at_150) (fun _ _ => ⟨rfl, e179, (by decide : 26 + 0 ≤ _), (by decide : 60 + 0 ≤ _)⟩)
      dsimp only [Pt.U, Pt.locs, Pt.cells, Pt.slots] at X180 lq180 yq180 zq180 st180 hQ180
      subst lq180 yq180 zq180
      obtain ⟨h180, e180⟩ : ∃ z, T180.heap = z := ⟨_, rfl⟩
      rw [e180] at hQ180
      obtain ⟨rfl, N180q, he180⟩ := hQ180
      have N180 := Fr.app N179 N180q
      rw [he180] at e180
      refine go_tr st180 ?_
      show Go _ _ _ _ (T180.setTop (mkF m 153 #[iv p0, iv p1, iv p2, iv p3, iv p4, rv g_1, iv 1, iv 1, rv a_147, rv a_150, rv a_154, rv a_158, rv b160, rv b_173, iv 1] [(.int 1)]))
      refine go_st (fun t k => XS.ifNo X180.here hx rfl (hb hby at_153) rfl ((if0 _ _).trans (feq ((by decide) : ¬ ((1 : Int32) = (0 : Int32)))).1) k) ?_
      show Go _ _ _ _ (T180.setTop (mkF m 156 #[iv p0, iv p1, iv p2, iv p3, iv p4, rv g_1, iv 1, iv 1, rv a_147, rv a_150, rv a_154, rv a_158, rv b160, rv b_173, iv 1] []))
      refine go_st (fun t k => XS.aload X180.here hx rfl (hb hby at_156) rfl rfl k) ?_
      show Go _ _ _ _ (T180.setTop (mkF m 158 #[iv p0, iv p1, iv p2, iv p3, iv p4, rv g_1, iv 1, iv 1, rv a_147, rv a_150, rv a_154, rv a_158, rv b160, rv b_173, iv 1] [(.ref b_173)]))
      obtain ⟨cq182, kq182, q182a, q182b, q182c⟩ := isOf hZ158 e180 p173_1
      obtain ⟨_, _, ⟨T182, L182, kk182, nn182⟩, -, X182, ⟨Lc182, hQ182, lq182, yq182, zq182⟩, st182⟩ := X180.virtualBack hx (y := (⟨"com/example/tuplet/tuplet/Commands$Option", "kind", "()Lcom/example/tuplet/tuplet/Commands$Kind;"⟩ : MethodName)) (z := (⟨"com/example/tuplet/tuplet/Commands$Option", "kind", "()Lcom/example/tuplet/tuplet/Commands$Kind;"⟩ : MethodName)) hown158 (mvT hZ158 (w78 hw)) (mvT hZ158 (w79 hw)) (notFace_of_selects (args := #[]) (mvT hZ158 (w81 hw))) (mvT hZ158 (w81 hw)) (mvT hZ158 (w80 hw)) (by decide) (backOf (W := 0) (rm_get_kind l Z a0 hw [] b_173 (.ref g_1) h173 n0 (Nat.le_trans Z0 sz175) p173_3 rfl) hZ158 (w82 hw) (w34 hw) (by decide) (by decide)) q182a q182c (g := (mkF m 158 #[iv p0, iv p1, iv p2, iv p3, iv p4, rv g_1, iv 1, iv 1, rv a_147, rv a_150, rv a_154, rv a_158, rv b160, rv b_173, iv 1] [(.ref b_173)])) rfl (by rw [hml]; rfl) (Steps.refl _) (argsL := []) (rest := []) (lenOf pd_9 rfl) rfl (by show 2 * 0 + _ ≤ _; exact Nat.le_of_eq rfl) (hb hby at_158) (fun _ _ => ⟨rfl, e180, (by decide : 26 + 0 ≤ _), (by decide : 60 + 0 ≤ _)⟩)
      dsimp only [Pt.U, Pt.locs, Pt.cells, Pt.slots] at X182 lq182 yq182 zq182 st182 hQ182
      subst lq182 yq182 zq182
      obtain ⟨h182, e182⟩ : ∃ z, T182.heap = z := ⟨_, rfl⟩
      rw [e182] at hQ182
      obtain ⟨rfl, N182q, he182⟩ := hQ182
      have N182 := Fr.app N180 N182q
      rw [he182] at e182
      refine go_tr st182 ?_
      show Go _ _ _ _ (T182.setTop (mkF m 161 #[iv p0, iv p1, iv p2, iv p3, iv p4, rv g_1, iv 1, iv 1, rv a_147, rv a_150, rv a_154, rv a_158, rv b160, rv b_173, iv 1] [(.ref g_1)]))
      refine go_st (fun t k => XS.aload X182.here hx rfl (hb hby at_161) rfl rfl k) ?_
      show Go _ _ _ _ (T182.setTop (mkF m 163 #[iv p0, iv p1, iv p2, iv p3, iv p4, rv g_1, iv 1, iv 1, rv a_147, rv a_150, rv a_154, rv a_158, rv b160, rv b_173, iv 1] [(.ref g_1), (.ref g_1)]))
      refine go_st (fun t k => Jvm.RoadKit.acmp (g := (mkF m 163 #[iv p0, iv p1, iv p2, iv p3, iv p4, rv g_1, iv 1, iv 1, rv a_147, rv a_150, rv a_154, rv a_158, rv b160, rv b_173, iv 1] [(.ref g_1), (.ref g_1)])) X182 hx rfl rfl rfl (pc0 := 163) (pc' := 166) (same := true) rfl (hb hby at_163) rfl (decide_eq_true rfl) (by decide) (by decide) k) ?_
      show Go _ _ _ _ (T182.setTop (mkF m 166 #[iv p0, iv p1, iv p2, iv p3, iv p4, rv g_1, iv 1, iv 1, rv a_147, rv a_150, rv a_154, rv a_158, rv b160, rv b_173, iv 1] []))
      refine go_st (fun t k => XS.aload X182.here hx rfl (hb hby at_166) rfl rfl k) ?_
      show Go _ _ _ _ (T182.setTop (mkF m 168 #[iv p0, iv p1, iv p2, iv p3, iv p4, rv g_1, iv 1, iv 1, rv a_147, rv a_150, rv a_154, rv a_158, rv b160, rv b_173, iv 1] [(.ref a_150)]))
      refine go_st (fun t k => XS.aload X182.here hx rfl (hb hby at_168) rfl rfl k) ?_
      show Go _ _ _ _ (T182.setTop (mkF m 170 #[iv p0, iv p1, iv p2, iv p3, iv p4, rv g_1, iv 1, iv 1, rv a_147, rv a_150, rv a_154, rv a_158, rv b160, rv b_173, iv 1] [(.ref b_173), (.ref a_150)]))
      obtain ⟨cq183, kq183, q183a, q183b, q183c⟩ := isOf hZ158 e182 p173_1
      obtain ⟨_, _, ⟨T183, L183, kk183, nn183⟩, -, X183, ⟨Lc183, hQ183, lq183, yq183, zq183⟩, st183⟩ := X182.virtualBack hx (y := (⟨"com/example/tuplet/tuplet/Commands$Option", "label", "()Ljava/lang/String;"⟩ : MethodName)) (z := (⟨"com/example/tuplet/tuplet/Commands$Option", "label", "()Ljava/lang/String;"⟩ : MethodName)) hown158 (mvT hZ158 (w83 hw)) (mvT hZ158 (w84 hw)) (notFace_of_selects (args := #[]) (mvT hZ158 (w86 hw))) (mvT hZ158 (w86 hw)) (mvT hZ158 (w85 hw)) (by decide) (backOf (W := 1) (rm_get_label l Z a0 hw [] b_173 (.ref a_150) h173 n0 (Nat.le_trans Z0 sz175) p173_4 rfl) hZ158 (w87 hw) (w34 hw) (by decide) (by decide)) q183a q183c (g := (mkF m 170 #[iv p0, iv p1, iv p2, iv p3, iv p4, rv g_1, iv 1, iv 1, rv a_147, rv a_150, rv a_154, rv a_158, rv b160, rv b_173, iv 1] [(.ref b_173), (.ref a_150)])) rfl (by rw [hml]; rfl) (Steps.refl _) (argsL := []) (rest := [(.ref a_150)]) (lenOf pd_7 rfl) rfl (by show 2 * 0 + _ ≤ _; exact Nat.le_of_eq rfl) (hb hby at_170) (fun _ _ => ⟨rfl, e182, (by decide : 26 + 0 ≤ _), (by decide : 60 + 0 ≤ _)⟩)
      dsimp only [Pt.U, Pt.locs, Pt.cells, Pt.slots] at X183 lq183 yq183 zq183 st183 hQ183
      subst lq183 yq183 zq183
      obtain ⟨h183, e183⟩ : ∃ z, T183.heap = z := ⟨_, rfl⟩
      rw [e183] at hQ183
      obtain ⟨rfl, N183q, he183⟩ := hQ183
      have N183 := Fr.app N182 N183q
      rw [he183] at e183
      refine go_tr st183 ?_
      show Go _ _ _ _ (T183.setTop (mkF m 173 #[iv p0, iv p1, iv p2, iv p3, iv p4, rv g_1, iv 1, iv 1, rv a_147, rv a_150, rv a_154, rv a_158, rv b160, rv b_173, iv 1] [(.ref a_150), (.ref a_150)]))
      have f185 : Exa Z h173 a_150 "java/lang/String" := (((((p150_1.keep K154).keep K158).ext E160).keep K170).keep K173)
      obtain ⟨cq184, kq184, q184a, q184b, q184c⟩ := isOf hZ158 e183 f185
      obtain ⟨_, _, ⟨T184, L184, kk184, nn184⟩, -, X184, ⟨Lc184, hQ184, lq184, yq184, zq184⟩, st184⟩ := X183.virtualBack hx (y := (⟨"java/lang/String", "equals", "(Ljava/lang/Object;)Z"⟩ : MethodName)) (z := (⟨"java/lang/String", "equals", "(Ljava/lang/Object;)Z"⟩ : MethodName)) hown158 (mvT hZ158 (w73 hw)) (mvT hZ158 (w74 hw)) (notFace_of_selects (args := #[]) (mvT hZ158 (w76 hw))) (mvT hZ158 (w76 hw)) (mvT hZ158 (w75 hw)) (by decide) (backOf (W := 0) (rm_eqsame l Z a0 hw [] a_150 h173 n0 (Nat.le_trans Z0 sz175) ) hZ158 (w77 hw) (w12 hw) (by decide) (by decide)) q184a q184c (g := (mkF m 173 #[iv p0, iv p1, iv p2, iv p3, iv p4, rv g_1, iv 1, iv 1, rv a_147, rv a_150, rv a_154, rv a_158, rv b160, rv b_173, iv 1] [(.ref a_150), (.ref a_150)])) rfl (by rw [hml]; rfl) (Steps.refl _) (argsL := [(.ref a_150)]) (rest := []) (lenOf pd_8 rfl) rfl (by show 2 * 0 + _ ≤ _; exact Nat.le_of_eq rfl) (hb hby at_173) (fun _ _ => ⟨rfl, e183, (by decide : 26 + 0 ≤ _), (by decide : 60 + 0 ≤ _)⟩)
      dsimp only [Pt.U, Pt.locs, Pt.cells, Pt.slots] at X184 lq184 yq184 zq184 st184 hQ184
      subst lq184 yq184 zq184
      obtain ⟨h184, e184⟩ : ∃ z, T184.heap = z := ⟨_, rfl⟩
      rw [e184] at hQ184
      obtain ⟨rfl, N184q, he184⟩ := hQ184
      have N184 := Fr.app N183 N184q
      rw [he184] at e184
      refine go_tr st184 ?_
      show Go _ _ _ _ (T184.setTop (mkF m 176 #[iv p0, iv p1, iv p2, iv p3, iv p4, rv g_1, iv 1, iv 1, rv a_147, rv a_150, rv a_154, rv a_158, rv b160, rv b_173, iv 1] [(.int 1)]))
      refine go_st (fun t k => XS.ifNo X184.here hx rfl (hb hby at_176) rfl ((if0 _ _).trans (feq ((by decide) : ¬ ((1 : Int32) = (0 : Int32)))).1) k) ?_
      show Go _ _ _ _ (T184.setTop (mkF m 179 #[iv p0, iv p1, iv p2, iv p3, iv p4, rv g_1, iv 1, iv 1, rv a_147, rv a_150, rv a_154, rv a_158, rv b160, rv b_173, iv 1] []))
      refine go_st (fun t k => XS.aload X184.here hx rfl (hb hby at_179) rfl rfl k) ?_
      show Go _ _ _ _ (T184.setTop (mkF m 181 #[iv p0, iv p1, iv p2, iv p3, iv p4, rv g_1, iv 1, iv 1, rv a_147, rv a_150, rv a_154, rv a_158, rv b160, rv b_173, iv 1] [(.ref a_154)]))
      refine go_st (fun t k => XS.aload X184.here hx rfl (hb hby at_181) rfl rfl k) ?_
      show Go _ _ _ _ (T184.setTop (mkF m 183 #[iv p0, iv p1, iv p2, iv p3, iv p4, rv g_1, iv 1, iv 1, rv a_147, rv a_150, rv a_154, rv a_158, rv b160, rv b_173, iv 1] [(.ref b_173), (.ref a_154)]))
      obtain ⟨cq186, kq186, q186a, q186b, q186c⟩ := isOf hZ158 e184 p173_1
      obtain ⟨_, _, ⟨T186, L186, kk186, nn186⟩, -, X186, ⟨Lc186, hQ186, lq186, yq186, zq186⟩, st186⟩ := X184.virtualBack hx (y := (⟨"com/example/tuplet/tuplet/Commands$Option", "help", "()Ljava/lang/String;"⟩ : MethodName)) (z := (⟨"com/example/tuplet/tuplet/Commands$Option", "help", "()Ljava/lang/String;"⟩ : MethodName)) hown158 (mvT hZ158 (w88 hw)) (mvT hZ158 (w89 hw)) (notFace_of_selects (args := #[]) (mvT hZ158 (w91 hw))) (mvT hZ158 (w91 hw)) (mvT hZ158 (w90 hw)) (by decide) (backOf (W := 1) (rm_get_help l Z a0 hw [] b_173 (.ref a_154) h173 n0 (Nat.le_trans Z0 sz175) p173_5 rfl) hZ158 (w92 hw) (w34 hw) (by decide) (by decide)) q186a q186c (g := (mkF m 183 #[iv p0, iv p1, iv p2, iv p3, iv p4, rv g_1, iv 1, iv 1, rv a_147, rv a_150, rv a_154, rv a_158, rv b160, rv b_173, iv 1] [(.ref b_173), (.ref a_154)])) rfl (by rw [hml]; rfl) (Steps.refl _) (argsL := []) (rest := [(.ref a_154)]) (lenOf pd_7 rfl) rfl (by show 2 * 0 + _ ≤ _; exact Nat.le_of_eq rfl) (hb hby at_183) (fun _ _ => ⟨rfl, e184, (by decide : 26 + 0 ≤ _), (by decide : 60 + 0 ≤ _)⟩)
      dsimp only [Pt.U, Pt.locs, Pt.cells, Pt.slots] at X186 lq186 yq186 zq186 st186 hQ186
      subst lq186 yq186 zq186
      obtain ⟨h186, e186⟩ : ∃ z, T186.heap = z := ⟨_, rfl⟩
      rw [e186] at hQ186
      obtain ⟨rfl, N186q, he186⟩ := hQ186
      have N186 := Fr.app N184 N186q
      rw [he186] at e186
      refine go_tr st186 ?_
      show Go _ _ _ _ (T186.setTop (mkF m 186 #[iv p0, iv p1, iv p2, iv p3, iv p4, rv g_1, iv 1, iv 1, rv a_147, rv a_150, rv a_154, rv a_158, rv b160, rv b_173, iv 1] [(.ref a_154), (.ref a_154)]))
      have f188 : Exa Z h173 a_154 "java/lang/String" := ((((p154_1.keep K158).ext E160).keep K170).keep K173)
      obtain ⟨cq187, kq187, q187a, q187b, q187c⟩ := isOf hZ158 e186 f188
      obtain ⟨_, _, ⟨T187, L187, kk187, nn187⟩, -, X187, ⟨Lc187, hQ187, lq187, yq187, zq187⟩, st187⟩ := X186.virtualBack hx (y := (⟨"java/lang/String", "equals", "(Ljava/lang/Object;)Z"⟩ : MethodName)) (z := (⟨"java/lang/String", "equals", "(Ljava/lang/Object;)Z"⟩ : MethodName)) hown158 (mvT hZ158 (w73 hw)) (mvT hZ158 (w74 hw)) (notFace_of_selects (args := #[]) (mvT hZ158 (w76 hw))) (mvT hZ158 (w76 hw)) (mvT hZ158 (w75 hw)) (by decide) (backOf (W := 0) (rm_eqsame l Z a0 hw [] a_154 h173 n0 (Nat.le_trans Z0 sz175) ) hZ158 (w77 hw) (w12 hw) (by decide) (by decide)) q187a q187c (g := (mkF m 186 #[iv p0, iv p1, iv p2, iv p3, iv p4, rv g_1, iv 1, iv 1, rv a_147, rv a_150, rv a_154, rv a_158, rv b160, rv b_173, iv 1] [(.ref a_154), (.ref a_154)])) rfl (by rw [hml]; rfl) (Steps.refl _) (argsL := [(.ref a_154)]) (rest := []) (lenOf pd_8 rfl) rfl (by show 2 * 0 + _ ≤ _; exact Nat.le_of_eq rfl) (hb hby at_186) (fun _ _ => ⟨rfl, e186, (by decide : 26 + 0 ≤ _), (by decide : 60 + 0 ≤ _)⟩)
      dsimp only [Pt.U, Pt.locs, Pt.cells, Pt.slots] at X187 lq187 yq187 zq187 st187 hQ187
      subst lq187 yq187 zq187
      obtain ⟨h187, e187⟩ : ∃ z, T187.heap = z := ⟨_, rfl⟩
      rw [e187] at hQ187
      obtain ⟨rfl, N187q, he187⟩ := hQ187
      have N187 := Fr.app N186 N187q
      rw [he187] at e187
      refine go_tr st187 ?_
      show Go _ _ _ _ (T187.setTop (mkF m 189 #[iv p0, iv p1, iv p2, iv p3, iv p4, rv g_1, iv 1, iv 1, rv a_147, rv a_150, rv a_154, rv a_158, rv b160, rv b_173, iv 1] [(.int 1)]))
      refine go_st (fun t k => XS.ifNo X187.here hx rfl (hb hby at_189) rfl ((if0 _ _).trans (feq ((by decide) : ¬ ((1 : Int32) = (0 : Int32)))).1) k) ?_
      show Go _ _ _ _ (T187.setTop (mkF m 192 #[iv p0, iv p1, iv p2, iv p3, iv p4, rv g_1, iv 1, iv 1, rv a_147, rv a_150, rv a_154, rv a_158, rv b160, rv b_173, iv 1] []))
      refine go_st (fun t k => XS.aload X187.here hx rfl (hb hby at_192) rfl rfl k) ?_
      show Go _ _ _ _ (T187.setTop (mkF m 194 #[iv p0, iv p1, iv p2, iv p3, iv p4, rv g_1, iv 1, iv 1, rv a_147, rv a_150, rv a_154, rv a_158, rv b160, rv b_173, iv 1] [(.ref b_173)]))
      obtain ⟨cq189, kq189, q189a, q189b, q189c⟩ := isOf hZ158 e187 p173_1
      obtain ⟨_, _, ⟨T189, L189, kk189, nn189⟩, -, X189, ⟨Lc189, hQ189, lq189, yq189, zq189⟩, st189⟩ := X187.virtualBack hx (y := (⟨"com/example/tuplet/tuplet/Commands$Option", "required", "()Z"⟩ : MethodName)) (z := (⟨"com/example/tuplet/tuplet/Commands$Option", "required", "()Z"⟩ : MethodName)) hown158 (mvT hZ158 (w93 hw)) (mvT hZ158 (w94 hw)) (notFace_of_selects (args := #[]) (mvT hZ158 (w96 hw))) (mvT hZ158 (w96 hw)) (mvT hZ158 (w95 hw)) (by decide) (backOf (W := 0) (rm_get_required1 l Z a0 hw [] b_173 h173 n0 (Nat.le_trans Z0 sz175) p173_6) hZ158 (w97 hw) (w34 hw) (by decide) (by decide)) q189a q189c (g := (mkF m 194 #[iv p0, iv p1, iv p2, iv p3, iv p4, rv g_1, iv 1, iv 1, rv a_147, rv a_150, rv a_154, rv a_158, rv b160, rv b_173, iv 1] [(.ref b_173)])) rfl (by rw [hml]; rfl) (Steps.refl _) (argsL := []) (rest := []) (lenOf pd_10 rfl) rfl (by show 2 * 0 + _ ≤ _; exact Nat.le_of_eq rfl) (hb hby at_194) (fun _ _ => ⟨rfl, e187, (by decide : 26 + 0 ≤ _), (by decide : 60 + 0 ≤ _)⟩)
      dsimp only [Pt.U, Pt.locs, Pt.cells, Pt.slots] at X189 lq189 yq189 zq189 st189 hQ189
      subst lq189 yq189 zq189
      obtain ⟨h189, e189⟩ : ∃ z, T189.heap = z := ⟨_, rfl⟩
      rw [e189] at hQ189
      obtain ⟨rfl, N189q, he189⟩ := hQ189
      have N189 := Fr.app N187 N189q
      rw [he189] at e189
      refine go_tr st189 ?_
      show Go _ _ _ _ (T189.setTop (mkF m 197 #[iv p0, iv p1, iv p2, iv p3, iv p4, rv g_1, iv 1, iv 1, rv a_147, rv a_150, rv a_154, rv a_158, rv b160, rv b_173, iv 1] [(.int 1)]))
      refine go_st (fun t k => XS.ifNo X189.here hx rfl (hb hby at_197) rfl ((if0 _ _).trans (feq ((by decide) : ¬ ((1 : Int32) = (0 : Int32)))).1) k) ?_
      show Go _ _ _ _ (T189.setTop (mkF m 200 #[iv p0, iv p1, iv p2, iv p3, iv p4, rv g_1, iv 1, iv 1, rv a_147, rv a_150, rv a_154, rv a_158, rv b160, rv b_173, iv 1] []))
      refine go_st (fun t k => XS.iload X189.here hx rfl (hb hby at_200) rfl k) ?_
      show Go _ _ _ _ (T189.setTop (mkF m 202 #[iv p0, iv p1, iv p2, iv p3, iv p4, rv g_1, iv 1, iv 1, rv a_147, rv a_150, rv a_154, rv a_158, rv b160, rv b_173, iv 1] [(.int 1)]))
      refine go_st (fun t k => XS.ifNo X189.here hx rfl (hb hby at_202) rfl ((if0 _ _).trans (feq ((by decide) : ¬ ((1 : Int32) = (0 : Int32)))).1) k) ?_
      show Go _ _ _ _ (T189.setTop (mkF m 205 #[iv p0, iv p1, iv p2, iv p3, iv p4, rv g_1, iv 1, iv 1, rv a_147, rv a_150, rv a_154, rv a_158, rv b160, rv b_173, iv 1] []))
      refine go_st (fun t k => XS.iconst X189.here hx rfl (hb hby at_205) k) ?_
      show Go _ _ _ _ (T189.setTop (mkF m 206 #[iv p0, iv p1, iv p2, iv p3, iv p4, rv g_1, iv 1, iv 1, rv a_147, rv a_150, rv a_154, rv a_158, rv b160, rv b_173, iv 1] [(.int 1)]))
      refine go_st (fun t k => XS.goto X189.here hx rfl (pc0 := 206) (pc' := 210) rfl (hb hby at_206) (by decide) (by decide) k) ?_
      show Go _ _ _ _ (T189.setTop (mkF m 210 #[iv p0, iv p1, iv p2, iv p3, iv p4, rv g_1, iv 1, iv 1, rv a_147, rv a_150, rv a_154, rv a_158, rv b160, rv b_173, iv 1] [(.int 1)]))
      have ke190 : Keep h0 h147 [] := (Keep.trans (Keep.refl h0 []) K147 all0)
      have ke191 : Keep h0 h150 [] := (Keep.trans ke190 K150 all0)
      have ke192 : Keep h0 h154 [] := (Keep.trans ke191 K154 all0)
      have ke193 : Keep h0 h158 [] := (Keep.trans ke192 K158 all0)
      have ke194 : Keep h0 h160 [] := (Keep.ext ke193 E160)
      have ke195 : Keep h0 h170 [] := (Keep.trans ke194 K170 (allS (Or.inr (Nat.le_trans sz168 (Nat.le_of_eq gq160.symm))) all0))
      have ke196 : Keep h0 h173 [] := (Keep.trans ke195 K173 all0)
      have sz197 : h158.size ≤ h170.size := (Nat.le_trans E160.1 K170.1)
      have sz198 : h158.size ≤ h173.size := (Nat.le_trans sz197 K173.1)
      obtain ⟨fs, hr, hrun, hended, hR⟩ := X189.leaveW hS158 (by rw [e189]; exact (Nat.le_trans (Nat.le_refl _) sz198)) (v := some (.int 1)) (fun h => by rw [Bd.returns] at h; cases h)
      refine ⟨_, _, ?_, hrun, hended, _, _, rfl, ?_, ?_, hR.1, hR.2.1, hR.2.2.1, hR.2.2.2.mono (by decide) (by decide)⟩
      · exact retN X189 hx (t := .boolean) Bd.returns (by simp) (hb hby at_210) hr
      · show Q_law _ _ _ _ _ _ _ _ _ _ _ _ _ _ _ T189.heap _
        rw [e189]
        exact ⟨rfl, N189, ke196⟩
      · show CHr Z consts_1 s.vm s.heap T189.vm T189.heap
        rw [hh, e189]
        exact CHr.trans C174 (CHv.at X189 hZ158 (hEL hw) C174.1)
set_option maxRecDepth 65536 in
set_option maxHeartbeats 40000000 in
theorem comes_1 {Post : Tables → Env → Array Value → State → Outcome → State → Prop} (hpost : ∀ tb e args s v u, (limb_1_1.after args s (.returned v) u = true ∧ limb_1_2.after args s (.returned v) u = true ∧ True) → ReturnedEndW s (.returned v) u (Jvm.fieldLocs frame_1_writes args s ++ Jvm.arrayLocs frame_1_arrays args s ++ Jvm.staticLocs frame_1_statics s) 40 1216 → Post tb e args s (.returned v) u) :
    ArmFor flags0 classFile x code maxLocals ret World_1 tables_1 room_1 Calls_1 rest_1 Pre_1 Post := by
  intro l hfl _ _ p e ha hc hk s m args below hf hA hF happ hP
  obtain ⟨hcalls, hrest, hpre⟩ := hP
  obtain ⟨-, -, -, hnamed, -, -, -, hat⟩ := (Spec.applies_iff hf).mp happ
  obtain ⟨hg, hn⟩ := and_e (Cond.before_iff.mp (show (Jvm.Cond.and given_1 narrow_1).before args s = true from hpre))
  obtain ⟨hcnt, ha0⟩ := and_e hg
  obtain ⟨gi0, ha1⟩ := and_e ha0
  obtain ⟨gi1, ha2⟩ := and_e ha1
  obtain ⟨gi2, ha3⟩ := and_e ha2
  obtain ⟨gi3, ha4⟩ := and_e ha3
  have gi4 := ha4
  obtain ⟨w0_, w1_, w2_, w3_, w4_, rfl⟩ : ∃ w0_ w1_ w2_ w3_ w4_ : Value, args = #[w0_, w1_, w2_, w3_, w4_] := by
    have hs : args.size = 5 := by simpa [Cond.value, given_1] using hcnt
    obtain ⟨L⟩ := args
    match L, hs with
    | [w0_, w1_, w2_, w3_, w4_], _ => exact ⟨w0_, w1_, w2_, w3_, w4_, rfl⟩
  have hw := fun d (hd : d ∈ tables_1) => atoms_spec (ws := Jvm.Cond.code x code maxLocals ret :: tables_1) hat d (List.mem_cons_of_mem _ hd)
  have hfit : Fit s := fun {y c} hc i hi => by
    obtain ⟨ha, rfl⟩ := Array.getElem?_eq_some_iff.mp hc
    have q := List.all_eq_true.mp ((Array.all_eq_true_iff_forall_mem.mp hF) _ (Array.getElem_mem ha)) i (List.mem_range.mpr hi)
    simpa [Array.getElem?_eq_getElem hi] using q
  obtain ⟨hsets, hown0⟩ := atoms_of _ (rest_1_c_eq ▸ (show rest_1_c.before _ s = true from hrest))
  obtain ⟨i0, ei0⟩ := is_v gi0
  obtain rfl : w0_ = (.int i0) := Option.some.inj ei0
  obtain ⟨i1, ei1⟩ := is_v gi1
  obtain rfl : w1_ = (.int i1) := Option.some.inj ei1
  obtain ⟨i2, ei2⟩ := is_v gi2
  obtain rfl : w2_ = (.int i2) := Option.some.inj ei2
  obtain ⟨i3, ei3⟩ := is_v gi3
  obtain rfl : w3_ = (.int i3) := Option.some.inj ei3
  obtain ⟨i4, ei4⟩ := is_v gi4
  obtain rfl : w4_ = (.int i4) := Option.some.inj ei4
  have n3 := not_v (Cond.before_iff.mp (hsets _ (List.mem_of_getElem? (i := 2) rfl)))
  obtain ⟨G1, e6⟩ := is_v (Cond.before_iff.mp (hsets _ (List.mem_of_getElem? (i := 1) rfl)))
  have CS : Sta s s.heap "java/lang/String" "COMPACT_STRINGS" "Z" (.int G1) := Sta.start e6 (Or.inl (hsets _ (List.mem_of_getElem? (i := 0) rfl)))
  have CSn : ¬ (G1 = (0 : Int32)) := gotF (Cond.eq_ints e6 (Term.int_eval (0))) n3
  obtain ⟨hx0, hy0⟩ := and_e hn
  obtain ⟨g0, eg0⟩ := exa_v hx0
  have GS0 : Sta s s.heap "com/example/tuplet/tuplet/Commands$Kind" "FLAG" "Lcom/example/tuplet/tuplet/Commands$Kind;" (.ref g0) := Sta.start eg0 (Or.inr ⟨(w5 hw), (w6 hw)⟩)
  obtain ⟨hx1, hy1⟩ := and_e hy0
  obtain ⟨g3, eg3⟩ := exa_v hx1
  have GS3 : Sta s s.heap "com/example/tuplet/tuplet/Commands$Kind" "PATH" "Lcom/example/tuplet/tuplet/Commands$Kind;" (.ref g3) := Sta.start eg3 (Or.inr ⟨(w5 hw), (w99 hw)⟩)
  obtain ⟨hx2, hy2⟩ := and_e hy1
  obtain ⟨g4, eg4⟩ := exa_v hx2
  have GS4 : Sta s s.heap "com/example/tuplet/tuplet/Commands$Kind" "LIST" "Lcom/example/tuplet/tuplet/Commands$Kind;" (.ref g4) := Sta.start eg4 (Or.inr ⟨(w5 hw), (w112 hw)⟩)
  obtain ⟨hx3, hy3⟩ := and_e hy2
  obtain ⟨g2, eg2⟩ := exa_v hx3
  have GS2 : Sta s s.heap "com/example/tuplet/tuplet/Commands$Kind" "INTEGER" "Lcom/example/tuplet/tuplet/Commands$Kind;" (.ref g2) := Sta.start eg2 (Or.inr ⟨(w5 hw), (w114 hw)⟩)
  obtain ⟨g1, eg1⟩ := exa_v hy3
  have GS1 : Sta s s.heap "com/example/tuplet/tuplet/Commands$Kind" "TEXT" "Lcom/example/tuplet/tuplet/Commands$Kind;" (.ref g1) := Sta.start eg1 (Or.inr ⟨(w5 hw), (w116 hw)⟩)
  obtain ⟨n, o, h1, h2, h3, _, L, rfl, ⟨rfl, N, -⟩, -, hq⟩ := rm_law l s _ hw tables_1 i0 i1 i2 i3 i4 G1 g0 g1 g2 g3 g4 s.heap s.heap.size (Nat.le_refl _) CS CSn GS0 GS1 GS2 GS3 GS4 (Old.start s) p e ha hc hk s m _ below hf ((Spec.applies_iff_loose hf).mp happ).1 ⟨rfl, State.Warmed39.refl s, rfl, CHv.start (hEL hw) hcalls.1 (hsets _ (List.mem_of_getElem? (i := 2) rfl)) (w25 hw) (w11 hw)⟩ trivial
  refine ⟨n, _, h1, h2, h3, hpost _ _ _ _ _ _ ⟨Cond.after_iff.mpr rfl, Cond.after_iff.mpr (eq_i res_at (Term.int_eval (1)) rfl), trivial⟩ ⟨hq.1, hq.2.1, hq.2.2.1, (hq.2.2.2.sift fun y hy => Or.inr (N y hy)).mono (by decide) (by decide)⟩⟩
theorem main_1_1 : Claimed_1_1 := comes_1 fun _ _ _ _ _ _ h hF => ⟨h.1, hF⟩
theorem main_1_2 : Claimed_1_2 := comes_1 fun _ _ _ _ _ _ h hF => ⟨h.2.1, hF⟩
end Jvm.Pilot.@@N@@
namespace Jvm.Pilot.@@N@@
open Jvm Jvm.ClassFile Sem Op Lib Jvm.Free Jvm.Stand Jvm.Pilot.@@N@@.Jvm.D
/-! MADE BY PROGRAM (witnessworld.py) out of the Statement's table words and the real class files: 23 classes; the members and pool entries that the words name. The judged class is class 1, her method 1. -/
namespace start1
open Jvm.ClassFile
def u (s : String) : CpInfo := .utf8 (stringToUtf16 s)
/-- a pool by its gaps: so many unusable entries, then the entry; so many at the end -/
def gap : Nat → List CpInfo → List CpInfo
  | 0, r => r
  | n + 1, r => .unusable :: gap n r
def poolList (es : List (Nat × CpInfo)) (last : Nat) : List CpInfo := es.foldr (fun e r => gap e.1 (e.2 :: r)) (gap last [])
def pool (es : List (Nat × CpInfo)) (last : Nat) : Array CpInfo := ⟨poolList es last⟩
def fileOf (pool : Array CpInfo) (this : Nat) (attrs : Array Attribute := #[]) (ms : Array MethodInfo := #[]) (fl : Nat := 33) (sup : Nat := 0) (ifs : Array Nat := #[]) (fds : Array FieldInfo := #[]) : ClassFile where
  minorVersion := 0
  majorVersion := 65
  constantPool := pool
  accessFlags := fl
  thisClass := this
  superClass := sup
  interfaces := ifs
  fields := fds
  methods := ms
  attributes := attrs
def plain (name : String) (sup : Option ClassId) : Class where
  name := name
  kind := .ordinary
  loader := none
  accessFlags := 33
  super := sup
  interfaces := #[]
  cf := none
  fields := #[]
  methods := #[]
  instanceTypes := #[]
  staticTypes := #[]
  resolved := #[]
  callSites := []
  init := .initialized
  statics := none
  mirror := none

def pool0 : Array CpInfo := pool [(5, u "<init>"), (0, u "()V"), (1, .class_ 10), (1, u "java/lang/Object")] 113

def k0c0 : Code := { maxStack := 0, maxLocals := 1, code := object_method_1_code, exceptionTable := #[], attributes := #[] }
def k0m0 : Method := { name := "<init>", desc := "()V", sig := { parameters := [], returnType := none }, accessFlags := 1, code := some k0c0 }
/-- java/lang/Object -/
def k0 : Class := { plain "java/lang/Object" none with
  accessFlags := 33
  interfaces := #[]
  cf := some (fileOf pool0 8 #[] #[{ accessFlags := 1, nameIndex := 5, descriptorIndex := 6, attributes := #[] }] 33 0 #[] #[])
  fields := #[]
  methods := #[k0m0]
  instanceTypes := #[]
  staticTypes := #[]
  resolved := Array.replicate 124 none
  statics := none }

def pool1 : Array CpInfo := pool [(2, .class_ 4), (1, u "java/lang/Object"), (0, u "<init>"), (0, u "()V"), (0, .methodref 8 9), (0, .class_ 10), (0, .nameAndType 11 12), (0, u "com/example/tuplet/tuplet/OptionAsRequiredPinLaw"), (0, u "kindOf"), (0, u "(I)Lcom/example/tuplet/tuplet/Commands$Kind;"), (0, .methodref 8 14), (0, .nameAndType 15 16), (0, u "str"), (0, u "(I)Ljava/lang/String;"), (0, .class_ 18), (0, u "com/example/tuplet/tuplet/Commands$Option"), (0, .methodref 17 20), (0, .nameAndType 5 21), (0, u "(Ljava/lang/String;Lcom/example/tuplet/tuplet/Commands$Kind;Ljava/lang/String;Ljava/lang/String;ZLjava/lang/String;)V"), (0, .methodref 17 23), (0, .nameAndType 24 25), (0, u "asRequired"), (0, u "()Lcom/example/tuplet/tuplet/Commands$Option;"), (0, .methodref 17 27), (0, .nameAndType 28 29), (0, u "byDefault"), (0, u "()Ljava/lang/String;"), (0, .methodref 31 32), (0, .class_ 33), (0, .nameAndType 34 35), (0, u "java/lang/String"), (0, u "equals"), (0, u "(Ljava/lang/Object;)Z"), (0, .methodref 17 37), (0, .nameAndType 38 29), (0, u "name"), (0, .methodref 17 40), (0, .nameAndType 41 42), (0, u "kind"), (0, u "()Lcom/example/tuplet/tuplet/Commands$Kind;"), (0, .methodref 17 44), (0, .nameAndType 45 29), (0, u "label"), (0, .methodref 17 47), (0, .nameAndType 48 29), (0, u "help"), (0, .methodref 17 50), (0, .nameAndType 51 52), (0, u "required"), (0, u "()Z"), (0, .fieldref 54 55), (0, .class_ 56), (0, .nameAndType 57 58), (0, u "com/example/tuplet/tuplet/Commands$Kind"), (0, u "FLAG"), (0, u "Lcom/example/tuplet/tuplet/Commands$Kind;"), (0, .fieldref 54 60), (0, .nameAndType 61 58), (0, u "TEXT"), (0, .fieldref 54 63), (0, .nameAndType 64 58), (0, u "INTEGER"), (0, .fieldref 54 66), (0, .nameAndType 67 58), (0, u "PATH"), (0, .fieldref 54 69), (0, .nameAndType 70 58), (0, u "LIST"), (0, .methodref 31 72), (0, .nameAndType 5 73), (0, u "([C)V"), (2, u "law"), (0, u "(IIIII)Z")] 8

def k1m0 : Method := { name := "<init>", desc := "()V", sig := { parameters := [], returnType := none }, accessFlags := 1, code := none }
def k1c1 : Code := { maxStack := 8, maxLocals := 15, code := code, exceptionTable := #[], attributes := #[] }
def k1m1 : Method := { name := "law", desc := "(IIIII)Z", sig := { parameters := [.int, .int, .int, .int, .int], returnType := some .boolean }, accessFlags := 9, code := some k1c1 }
def k1c2 : Code := { maxStack := 2, maxLocals := 1, code := method_3_code, exceptionTable := #[], attributes := #[] }
def k1m2 : Method := { name := "kindOf", desc := "(I)Lcom/example/tuplet/tuplet/Commands$Kind;", sig := { parameters := [.int], returnType := some (.object "com/example/tuplet/tuplet/Commands$Kind") }, accessFlags := 10, code := some k1c2 }
def k1c3 : Code := { maxStack := 3, maxLocals := 5, code := method_4_code, exceptionTable := #[], attributes := #[] }
def k1m3 : Method := { name := "str", desc := "(I)Ljava/lang/String;", sig := { parameters := [.int], returnType := some (.object "java/lang/String") }, accessFlags := 10, code := some k1c3 }
/-- com/example/tuplet/tuplet/OptionAsRequiredPinLaw -/
def k1 : Class := { plain "com/example/tuplet/tuplet/OptionAsRequiredPinLaw" (some 0) with
  accessFlags := 49
  interfaces := #[]
  cf := some (fileOf pool1 8 #[] #[{ accessFlags := 1, nameIndex := 5, descriptorIndex := 6, attributes := #[] }, { accessFlags := 9, nameIndex := 76, descriptorIndex := 77, attributes := #[] }, { accessFlags := 10, nameIndex := 11, descriptorIndex := 12, attributes := #[] }, { accessFlags := 10, nameIndex := 15, descriptorIndex := 16, attributes := #[] }] 49 2 #[] #[])
  fields := #[]
  methods := #[k1m0, k1m1, k1m2, k1m3]
  instanceTypes := #[]
  staticTypes := #[]
  resolved := Array.replicate 86 none
  statics := none }

def pool2 : Array CpInfo := pool [(1, .class_ 2), (0, u "java/lang/constant/Constable"), (0, .class_ 4), (0, u "java/lang/Object")] 6

/-- java/lang/constant/Constable -/
def k2 : Class := { plain "java/lang/constant/Constable" (some 0) with
  accessFlags := 1537
  interfaces := #[]
  cf := some (fileOf pool2 1 #[] #[] 1537 3 #[] #[])
  fields := #[]
  methods := #[]
  instanceTypes := #[]
  staticTypes := #[]
  resolved := Array.replicate 11 none
  statics := none }

def pool3 : Array CpInfo := pool [(1, .class_ 2), (0, u "java/lang/Comparable"), (0, .class_ 4), (0, u "java/lang/Object")] 7

/-- java/lang/Comparable -/
def k3 : Class := { plain "java/lang/Comparable" (some 0) with
  accessFlags := 1537
  interfaces := #[]
  cf := some (fileOf pool3 1 #[] #[] 1537 3 #[] #[])
  fields := #[]
  methods := #[]
  instanceTypes := #[]
  staticTypes := #[]
  resolved := Array.replicate 12 none
  statics := none }

def pool4 : Array CpInfo := pool [(1, .class_ 2), (0, u "java/io/Serializable"), (0, .class_ 4), (0, u "java/lang/Object")] 2

/-- java/io/Serializable -/
def k4 : Class := { plain "java/io/Serializable" (some 0) with
  accessFlags := 1537
  interfaces := #[]
  cf := some (fileOf pool4 1 #[] #[] 1537 3 #[] #[])
  fields := #[]
  methods := #[]
  instanceTypes := #[]
  staticTypes := #[]
  resolved := Array.replicate 7 none
  statics := none }

def pool5 : Array CpInfo := pool [(2, .class_ 4), (1, u "java/lang/Enum"), (0, u "name"), (0, u "Ljava/lang/String;"), (2, u "ordinal"), (0, u "I"), (1, .class_ 14), (1, u "java/lang/Object"), (4, u "hash"), (86, .class_ 108), (1, u "java/lang/Enum$EnumDesc"), (2, .class_ 112), (0, u "java/lang/constant/Constable"), (0, .class_ 114), (0, u "java/lang/Comparable"), (0, .class_ 116), (0, u "java/io/Serializable")] 87

/-- java/lang/Enum -/
def k5 : Class := { plain "java/lang/Enum" (some 0) with
  accessFlags := 1057
  interfaces := #[2, 3, 4]
  cf := some (fileOf pool5 2 #[.nestMembers #[106]] #[] 1057 12 #[111, 113, 115] #[{ accessFlags := 18, nameIndex := 5, descriptorIndex := 6, attributes := #[] }, { accessFlags := 18, nameIndex := 9, descriptorIndex := 10, attributes := #[] }, { accessFlags := 2, nameIndex := 19, descriptorIndex := 10, attributes := #[] }])
  fields := #[{ name := "name", type := (.object "java/lang/String"), accessFlags := 18, slot := 0, constantValue := 0 }, { name := "ordinal", type := .int, accessFlags := 18, slot := 1, constantValue := 0 }, { name := "hash", type := .int, accessFlags := 2, slot := 2, constantValue := 0 }]
  methods := #[]
  instanceTypes := #[(.object "java/lang/String"), .int, .int]
  staticTypes := #[]
  resolved := Array.replicate 204 none
  statics := none }

def pool6 : Array CpInfo := pool [(1, .class_ 2), (0, u "com/example/tuplet/tuplet/Commands$Kind"), (2, u "FLAG"), (0, u "Lcom/example/tuplet/tuplet/Commands$Kind;"), (2, u "TEXT"), (2, u "INTEGER"), (2, u "PATH"), (2, u "LIST"), (2, u "$VALUES"), (0, u "[Lcom/example/tuplet/tuplet/Commands$Kind;"), (6, .class_ 31), (1, u "java/lang/Enum"), (28, .class_ 61), (0, u "com/example/tuplet/tuplet/Commands")] 2

/-- com/example/tuplet/tuplet/Commands$Kind -/
def k6 : Class := { plain "com/example/tuplet/tuplet/Commands$Kind" (some 5) with
  accessFlags := 16432
  interfaces := #[]
  cf := some (fileOf pool6 1 #[.nestHost 60] #[] 16432 29 #[] #[{ accessFlags := 16409, nameIndex := 5, descriptorIndex := 6, attributes := #[] }, { accessFlags := 16409, nameIndex := 9, descriptorIndex := 6, attributes := #[] }, { accessFlags := 16409, nameIndex := 12, descriptorIndex := 6, attributes := #[] }, { accessFlags := 16409, nameIndex := 15, descriptorIndex := 6, attributes := #[] }, { accessFlags := 16409, nameIndex := 18, descriptorIndex := 6, attributes := #[] }, { accessFlags := 4122, nameIndex := 21, descriptorIndex := 22, attributes := #[] }])
  fields := #[{ name := "FLAG", type := (.object "com/example/tuplet/tuplet/Commands$Kind"), accessFlags := 16409, slot := 0, constantValue := 0 }, { name := "TEXT", type := (.object "com/example/tuplet/tuplet/Commands$Kind"), accessFlags := 16409, slot := 1, constantValue := 0 }, { name := "INTEGER", type := (.object "com/example/tuplet/tuplet/Commands$Kind"), accessFlags := 16409, slot := 2, constantValue := 0 }, { name := "PATH", type := (.object "com/example/tuplet/tuplet/Commands$Kind"), accessFlags := 16409, slot := 3, constantValue := 0 }, { name := "LIST", type := (.object "com/example/tuplet/tuplet/Commands$Kind"), accessFlags := 16409, slot := 4, constantValue := 0 }, { name := "$VALUES", type := (.array (.object "com/example/tuplet/tuplet/Commands$Kind")), accessFlags := 4122, slot := 5, constantValue := 0 }]
  methods := #[]
  instanceTypes := #[(.object "java/lang/String"), .int, .int]
  staticTypes := #[(.object "com/example/tuplet/tuplet/Commands$Kind"), (.object "com/example/tuplet/tuplet/Commands$Kind"), (.object "com/example/tuplet/tuplet/Commands$Kind"), (.object "com/example/tuplet/tuplet/Commands$Kind"), (.object "com/example/tuplet/tuplet/Commands$Kind"), (.array (.object "com/example/tuplet/tuplet/Commands$Kind"))]
  resolved := Array.replicate 64 none
  statics := some 0 }

def pool7 : Array CpInfo := pool [(2, .class_ 4), (1, u "java/lang/CharSequence"), (42, .class_ 48), (0, u "java/lang/CharSequence$1CodePointIterator"), (10, .class_ 60), (0, u "java/lang/CharSequence$1CharIterator"), (5, .class_ 67), (0, u "java/lang/Object")] 63

/-- java/lang/CharSequence -/
def k7 : Class := { plain "java/lang/CharSequence" (some 0) with
  accessFlags := 1537
  interfaces := #[]
  cf := some (fileOf pool7 2 #[.nestMembers #[47, 59]] #[] 1537 66 #[] #[])
  fields := #[]
  methods := #[]
  instanceTypes := #[]
  staticTypes := #[]
  resolved := Array.replicate 131 none
  statics := none }

def pool8 : Array CpInfo := pool [(1, .class_ 2), (0, u "java/lang/constant/ConstantDesc"), (0, .class_ 4), (0, u "java/lang/Object")] 32

/-- java/lang/constant/ConstantDesc -/
def k8 : Class := { plain "java/lang/constant/ConstantDesc" (some 0) with
  accessFlags := 1537
  interfaces := #[]
  cf := some (fileOf pool8 1 #[] #[] 1537 3 #[] #[])
  fields := #[]
  methods := #[]
  instanceTypes := #[]
  staticTypes := #[]
  resolved := Array.replicate 37 none
  statics := none }

def pool9 : Array CpInfo := pool [(1, .methodref 2 3), (0, .class_ 4), (0, .nameAndType 5 6), (0, u "java/lang/Object"), (0, u "<init>"), (0, u "()V"), (0, .string 8), (0, u ""), (0, .fieldref 10 11), (0, .class_ 12), (0, .nameAndType 13 14), (0, u "java/lang/String"), (0, u "value"), (0, u "[B"), (0, .fieldref 10 16), (0, .nameAndType 17 18), (0, u "coder"), (0, u "B"), (2, u "hash"), (0, u "I"), (2, u "hashIsZero"), (0, u "Z"), (0, .methodref 10 28), (0, .nameAndType 5 29), (0, u "([CIILjava/lang/Void;)V"), (8, .fieldref 10 39), (0, .nameAndType 40 26), (0, u "COMPACT_STRINGS"), (1, .class_ 44), (1, u "java/lang/StringUTF16"), (0, u "compress"), (1, .methodref 42 48), (0, .nameAndType 49 50), (0, u "coderFromArrayLen"), (0, u "([BI)B"), (126, .methodref 42 178), (0, .nameAndType 45 179), (0, u "([CII)[B"), (363, u "equals"), (29, u "(Ljava/lang/Object;)Z"), (1, .class_ 576), (0, u "java/lang/CharSequence"), (22, u "CASE_INSENSITIVE_ORDER"), (0, u "Ljava/util/Comparator;"), (409, u "([C)V"), (90, u "serialPersistentFields"), (0, u "[Ljava/io/ObjectStreamField;"), (0, .class_ 1104), (0, u "java/lang/String$CaseInsensitiveComparator"), (1, .class_ 1107), (0, u "java/io/Serializable"), (0, .class_ 1109), (0, u "java/lang/Comparable"), (0, .class_ 1111), (0, u "java/lang/constant/Constable"), (0, .class_ 1113), (0, u "java/lang/constant/ConstantDesc"), (2, u "serialVersionUID"), (0, u "J"), (3, u "REPL"), (0, u "C"), (2, u "LATIN1"), (1, u "UTF16")] 323

def k9m0 : Method := { name := "<init>", desc := "()V", sig := { parameters := [], returnType := none }, accessFlags := 1, code := none }
def k9c1 : Code := { maxStack := 5, maxLocals := 2, code := jdk_42_method_3_code, exceptionTable := #[], attributes := #[] }
def k9m1 : Method := { name := "<init>", desc := "([C)V", sig := { parameters := [(.array .char)], returnType := none }, accessFlags := 1, code := some k9c1 }
def k9c2 : Code := { maxStack := 2, maxLocals := 3, code := jdk_42_method_66_code, exceptionTable := #[], attributes := #[] }
def k9m2 : Method := { name := "equals", desc := "(Ljava/lang/Object;)Z", sig := { parameters := [(.object "java/lang/Object")], returnType := some .boolean }, accessFlags := 1, code := some k9c2 }
def k9c3 : Code := { maxStack := 4, maxLocals := 6, code := jdk_42_method_149_code, exceptionTable := #[], attributes := #[] }
def k9m3 : Method := { name := "<init>", desc := "([CIILjava/lang/Void;)V", sig := { parameters := [(.array .char), .int, .int, (.object "java/lang/Void")], returnType := none }, accessFlags := 2, code := some k9c3 }
/-- java/lang/String -/
def k9 : Class := { plain "java/lang/String" (some 0) with
  accessFlags := 49
  interfaces := #[4, 3, 7, 2, 8]
  cf := some (fileOf pool9 10 #[.nestMembers #[1103]] #[{ accessFlags := 1, nameIndex := 5, descriptorIndex := 6, attributes := #[] }, { accessFlags := 1, nameIndex := 5, descriptorIndex := 1010, attributes := #[] }, { accessFlags := 1, nameIndex := 543, descriptorIndex := 573, attributes := #[] }, { accessFlags := 2, nameIndex := 5, descriptorIndex := 29, attributes := #[] }] 49 2 #[1106, 1108, 575, 1110, 1112] #[{ accessFlags := 18, nameIndex := 13, descriptorIndex := 14, attributes := #[] }, { accessFlags := 18, nameIndex := 17, descriptorIndex := 18, attributes := #[] }, { accessFlags := 2, nameIndex := 21, descriptorIndex := 22, attributes := #[] }, { accessFlags := 2, nameIndex := 25, descriptorIndex := 26, attributes := #[] }, { accessFlags := 26, nameIndex := 1116, descriptorIndex := 1117, attributes := #[] }, { accessFlags := 24, nameIndex := 40, descriptorIndex := 26, attributes := #[] }, { accessFlags := 26, nameIndex := 1101, descriptorIndex := 1102, attributes := #[] }, { accessFlags := 26, nameIndex := 1121, descriptorIndex := 1122, attributes := #[] }, { accessFlags := 25, nameIndex := 599, descriptorIndex := 600, attributes := #[] }, { accessFlags := 24, nameIndex := 1125, descriptorIndex := 18, attributes := #[] }, { accessFlags := 24, nameIndex := 1127, descriptorIndex := 18, attributes := #[] }])
  fields := #[{ name := "value", type := (.array .byte), accessFlags := 18, slot := 0, constantValue := 0 }, { name := "coder", type := .byte, accessFlags := 18, slot := 1, constantValue := 0 }, { name := "hash", type := .int, accessFlags := 2, slot := 2, constantValue := 0 }, { name := "hashIsZero", type := .boolean, accessFlags := 2, slot := 3, constantValue := 0 }, { name := "serialVersionUID", type := .long, accessFlags := 26, slot := 0, constantValue := 0 }, { name := "COMPACT_STRINGS", type := .boolean, accessFlags := 24, slot := 1, constantValue := 0 }, { name := "serialPersistentFields", type := (.array (.object "java/io/ObjectStreamField")), accessFlags := 26, slot := 2, constantValue := 0 }, { name := "REPL", type := .char, accessFlags := 26, slot := 3, constantValue := 0 }, { name := "CASE_INSENSITIVE_ORDER", type := (.object "java/util/Comparator"), accessFlags := 25, slot := 4, constantValue := 0 }, { name := "LATIN1", type := .byte, accessFlags := 24, slot := 5, constantValue := 0 }, { name := "UTF16", type := .byte, accessFlags := 24, slot := 6, constantValue := 0 }]
  methods := #[k9m0, k9m1, k9m2, k9m3]
  instanceTypes := #[(.array .byte), .byte, .int, .boolean]
  staticTypes := #[.long, .boolean, (.array (.object "java/io/ObjectStreamField")), .char, (.object "java/util/Comparator"), .byte, .byte]
  resolved := Array.replicate 1451 none
  statics := some 1 }

def pool10 : Array CpInfo := pool [(1, .methodref 2 3), (0, .class_ 4), (0, .nameAndType 5 6), (0, u "java/lang/Object"), (0, u "<init>"), (0, u "()V"), (0, .class_ 8), (0, u "java/lang/Record")] 13

def k10c0 : Code := { maxStack := 1, maxLocals := 1, code := jdk_30_method_1_code, exceptionTable := #[], attributes := #[] }
def k10m0 : Method := { name := "<init>", desc := "()V", sig := { parameters := [], returnType := none }, accessFlags := 4, code := some k10c0 }
/-- java/lang/Record -/
def k10 : Class := { plain "java/lang/Record" (some 0) with
  accessFlags := 1057
  interfaces := #[]
  cf := some (fileOf pool10 7 #[] #[{ accessFlags := 4, nameIndex := 5, descriptorIndex := 6, attributes := #[] }] 1057 2 #[] #[])
  fields := #[]
  methods := #[k10m0]
  instanceTypes := #[]
  staticTypes := #[]
  resolved := Array.replicate 22 none
  statics := none }

def pool11 : Array CpInfo := pool [(1, .methodref 2 3), (0, .class_ 4), (0, .nameAndType 5 6), (0, u "java/lang/Record"), (0, u "<init>"), (0, u "()V"), (0, .fieldref 8 9), (0, .class_ 10), (0, .nameAndType 11 12), (0, u "com/example/tuplet/tuplet/Commands$Option"), (0, u "name"), (0, u "Ljava/lang/String;"), (0, .fieldref 8 14), (0, .nameAndType 15 16), (0, u "kind"), (0, u "Lcom/example/tuplet/tuplet/Commands$Kind;"), (0, .fieldref 8 18), (0, .nameAndType 19 12), (0, u "label"), (0, .fieldref 8 21), (0, .nameAndType 22 12), (0, u "help"), (0, .fieldref 8 24), (0, .nameAndType 25 26), (0, u "required"), (0, u "Z"), (0, .fieldref 8 28), (0, .nameAndType 29 12), (0, u "byDefault"), (7, .methodref 8 38), (0, .nameAndType 5 39), (0, u "(Ljava/lang/String;Lcom/example/tuplet/tuplet/Commands$Kind;Ljava/lang/String;Ljava/lang/String;ZLjava/lang/String;)V"), (5, u "()Z"), (23, u "asRequired"), (0, u "()Lcom/example/tuplet/tuplet/Commands$Option;"), (3, u "()Ljava/lang/String;"), (3, u "()Lcom/example/tuplet/tuplet/Commands$Kind;"), (3, .class_ 83), (0, u "com/example/tuplet/tuplet/Commands")] 33

def k11c0 : Code := { maxStack := 2, maxLocals := 7, code := prog_6_method_1_code, exceptionTable := #[], attributes := #[] }
def k11m0 : Method := { name := "<init>", desc := "(Ljava/lang/String;Lcom/example/tuplet/tuplet/Commands$Kind;Ljava/lang/String;Ljava/lang/String;ZLjava/lang/String;)V", sig := { parameters := [(.object "java/lang/String"), (.object "com/example/tuplet/tuplet/Commands$Kind"), (.object "java/lang/String"), (.object "java/lang/String"), .boolean, (.object "java/lang/String")], returnType := none }, accessFlags := 0, code := some k11c0 }
def k11c1 : Code := { maxStack := 8, maxLocals := 1, code := prog_6_method_4_code, exceptionTable := #[], attributes := #[] }
def k11m1 : Method := { name := "asRequired", desc := "()Lcom/example/tuplet/tuplet/Commands$Option;", sig := { parameters := [], returnType := some (.object "com/example/tuplet/tuplet/Commands$Option") }, accessFlags := 0, code := some k11c1 }
def k11c2 : Code := { maxStack := 1, maxLocals := 1, code := prog_6_method_10_code, exceptionTable := #[], attributes := #[] }
def k11m2 : Method := { name := "name", desc := "()Ljava/lang/String;", sig := { parameters := [], returnType := some (.object "java/lang/String") }, accessFlags := 1, code := some k11c2 }
def k11c3 : Code := { maxStack := 1, maxLocals := 1, code := prog_6_method_11_code, exceptionTable := #[], attributes := #[] }
def k11m3 : Method := { name := "kind", desc := "()Lcom/example/tuplet/tuplet/Commands$Kind;", sig := { parameters := [], returnType := some (.object "com/example/tuplet/tuplet/Commands$Kind") }, accessFlags := 1, code := some k11c3 }
def k11c4 : Code := { maxStack := 1, maxLocals := 1, code := prog_6_method_12_code, exceptionTable := #[], attributes := #[] }
def k11m4 : Method := { name := "label", desc := "()Ljava/lang/String;", sig := { parameters := [], returnType := some (.object "java/lang/String") }, accessFlags := 1, code := some k11c4 }
def k11c5 : Code := { maxStack := 1, maxLocals := 1, code := prog_6_method_13_code, exceptionTable := #[], attributes := #[] }
def k11m5 : Method := { name := "help", desc := "()Ljava/lang/String;", sig := { parameters := [], returnType := some (.object "java/lang/String") }, accessFlags := 1, code := some k11c5 }
def k11c6 : Code := { maxStack := 1, maxLocals := 1, code := prog_6_method_14_code, exceptionTable := #[], attributes := #[] }
def k11m6 : Method := { name := "required", desc := "()Z", sig := { parameters := [], returnType := some .boolean }, accessFlags := 1, code := some k11c6 }
def k11c7 : Code := { maxStack := 1, maxLocals := 1, code := prog_6_method_15_code, exceptionTable := #[], attributes := #[] }
def k11m7 : Method := { name := "byDefault", desc := "()Ljava/lang/String;", sig := { parameters := [], returnType := some (.object "java/lang/String") }, accessFlags := 1, code := some k11c7 }
/-- com/example/tuplet/tuplet/Commands$Option -/
def k11 : Class := { plain "com/example/tuplet/tuplet/Commands$Option" (some 10) with
  accessFlags := 48
  interfaces := #[]
  cf := some (fileOf pool11 8 #[.nestHost 82] #[{ accessFlags := 0, nameIndex := 5, descriptorIndex := 39, attributes := #[] }, { accessFlags := 0, nameIndex := 69, descriptorIndex := 70, attributes := #[] }, { accessFlags := 1, nameIndex := 11, descriptorIndex := 74, attributes := #[] }, { accessFlags := 1, nameIndex := 15, descriptorIndex := 78, attributes := #[] }, { accessFlags := 1, nameIndex := 19, descriptorIndex := 74, attributes := #[] }, { accessFlags := 1, nameIndex := 22, descriptorIndex := 74, attributes := #[] }, { accessFlags := 1, nameIndex := 25, descriptorIndex := 45, attributes := #[] }, { accessFlags := 1, nameIndex := 29, descriptorIndex := 74, attributes := #[] }] 48 2 #[] #[{ accessFlags := 18, nameIndex := 11, descriptorIndex := 12, attributes := #[] }, { accessFlags := 18, nameIndex := 15, descriptorIndex := 16, attributes := #[] }, { accessFlags := 18, nameIndex := 19, descriptorIndex := 12, attributes := #[] }, { accessFlags := 18, nameIndex := 22, descriptorIndex := 12, attributes := #[] }, { accessFlags := 18, nameIndex := 25, descriptorIndex := 26, attributes := #[] }, { accessFlags := 18, nameIndex := 29, descriptorIndex := 12, attributes := #[] }])
  fields := #[{ name := "name", type := (.object "java/lang/String"), accessFlags := 18, slot := 0, constantValue := 0 }, { name := "kind", type := (.object "com/example/tuplet/tuplet/Commands$Kind"), accessFlags := 18, slot := 1, constantValue := 0 }, { name := "label", type := (.object "java/lang/String"), accessFlags := 18, slot := 2, constantValue := 0 }, { name := "help", type := (.object "java/lang/String"), accessFlags := 18, slot := 3, constantValue := 0 }, { name := "required", type := .boolean, accessFlags := 18, slot := 4, constantValue := 0 }, { name := "byDefault", type := (.object "java/lang/String"), accessFlags := 18, slot := 5, constantValue := 0 }]
  methods := #[k11m0, k11m1, k11m2, k11m3, k11m4, k11m5, k11m6, k11m7]
  instanceTypes := #[(.object "java/lang/String"), (.object "com/example/tuplet/tuplet/Commands$Kind"), (.object "java/lang/String"), (.object "java/lang/String"), .boolean, (.object "java/lang/String")]
  staticTypes := #[]
  resolved := Array.replicate 117 none
  statics := none }

def pool12 : Array CpInfo := pool [(6, .class_ 8), (1, u "java/lang/Object"), (0, u "<init>"), (0, u "()V"), (1, .class_ 14), (1, u "java/lang/StringUTF16"), (31, u "$assertionsDisabled"), (0, u "Z"), (13, u "HI_BYTE_SHIFT"), (0, u "I"), (2, u "LO_BYTE_SHIFT"), (49, .methodref 12 116), (0, .nameAndType 117 118), (0, u "compress"), (0, u "([CI[BII)I"), (3, u "([CII)[B"), (138, u "coderFromArrayLen"), (0, u "([BI)B"), (106, .class_ 371), (1, u "java/lang/StringUTF16$LinesSpliterator"), (58, u "MAX_LENGTH"), (196, .class_ 628), (0, u "java/lang/StringUTF16$CodePointsSpliterator"), (0, .class_ 630), (0, u "java/lang/StringUTF16$CharsSpliterator")] 4

def k12m0 : Method := { name := "<init>", desc := "()V", sig := { parameters := [], returnType := none }, accessFlags := 0, code := none }
def k12c1 : Code := { maxStack := 2, maxLocals := 2, code := jdk_52_method_15_code, exceptionTable := #[], attributes := #[] }
def k12m1 : Method := { name := "coderFromArrayLen", desc := "([BI)B", sig := { parameters := [(.array .byte), .int], returnType := some .byte }, accessFlags := 8, code := some k12c1 }
def k12c2 : Code := { maxStack := 5, maxLocals := 6, code := jdk_52_method_16_code, exceptionTable := #[], attributes := #[] }
def k12m2 : Method := { name := "compress", desc := "([CII)[B", sig := { parameters := [(.array .char), .int, .int], returnType := some (.array .byte) }, accessFlags := 9, code := some k12c2 }
def k12c3 : Code := { maxStack := 3, maxLocals := 7, code := jdk_52_method_21_code, exceptionTable := #[], attributes := #[] }
def k12m3 : Method := { name := "compress", desc := "([CI[BII)I", sig := { parameters := [(.array .char), .int, (.array .byte), .int, .int], returnType := some .int }, accessFlags := 9, code := some k12c3 }
/-- java/lang/StringUTF16 -/
def k12 : Class := { plain "java/lang/StringUTF16" (some 0) with
  accessFlags := 48
  interfaces := #[]
  cf := some (fileOf pool12 12 #[.nestMembers #[627, 629, 369]] #[{ accessFlags := 0, nameIndex := 9, descriptorIndex := 10, attributes := #[] }, { accessFlags := 8, nameIndex := 261, descriptorIndex := 262, attributes := #[] }, { accessFlags := 9, nameIndex := 117, descriptorIndex := 122, attributes := #[] }, { accessFlags := 9, nameIndex := 117, descriptorIndex := 118, attributes := #[] }] 48 6 #[] #[{ accessFlags := 26, nameIndex := 61, descriptorIndex := 62, attributes := #[] }, { accessFlags := 26, nameIndex := 65, descriptorIndex := 62, attributes := #[] }, { accessFlags := 24, nameIndex := 430, descriptorIndex := 62, attributes := #[] }, { accessFlags := 4120, nameIndex := 46, descriptorIndex := 47, attributes := #[] }])
  fields := #[{ name := "HI_BYTE_SHIFT", type := .int, accessFlags := 26, slot := 0, constantValue := 0 }, { name := "LO_BYTE_SHIFT", type := .int, accessFlags := 26, slot := 1, constantValue := 0 }, { name := "MAX_LENGTH", type := .int, accessFlags := 24, slot := 2, constantValue := 0 }, { name := "$assertionsDisabled", type := .boolean, accessFlags := 4120, slot := 3, constantValue := 0 }]
  methods := #[k12m0, k12m1, k12m2, k12m3]
  instanceTypes := #[]
  staticTypes := #[.int, .int, .int, .boolean]
  resolved := Array.replicate 635 none
  statics := none }

def pool13 : Array CpInfo := pool [(4, .class_ 6), (1, u "java/lang/Object"), (0, u "<init>"), (0, u "()V"), (5, .class_ 16), (1, u "java/lang/StringLatin1"), (104, u "$assertionsDisabled"), (0, u "Z"), (98, .class_ 223), (1, u "java/lang/StringLatin1$LinesSpliterator"), (166, .class_ 391), (0, u "java/lang/StringLatin1$CharsSpliterator")] 3

def k13m0 : Method := { name := "<init>", desc := "()V", sig := { parameters := [], returnType := none }, accessFlags := 0, code := none }
/-- java/lang/StringLatin1 -/
def k13 : Class := { plain "java/lang/StringLatin1" (some 0) with
  accessFlags := 48
  interfaces := #[]
  cf := some (fileOf pool13 14 #[.nestMembers #[390, 221]] #[{ accessFlags := 0, nameIndex := 7, descriptorIndex := 8, attributes := #[] }] 48 4 #[] #[{ accessFlags := 4120, nameIndex := 121, descriptorIndex := 122, attributes := #[] }])
  fields := #[{ name := "$assertionsDisabled", type := .boolean, accessFlags := 4120, slot := 0, constantValue := 0 }]
  methods := #[k13m0]
  instanceTypes := #[]
  staticTypes := #[.boolean]
  resolved := Array.replicate 395 none
  statics := none }

def pool14 : Array CpInfo := pool [(2, .class_ 4), (1, u "java/lang/Object"), (0, u "<init>"), (0, u "()V"), (17, .class_ 26), (1, u "jdk/internal/util/Preconditions"), (28, .class_ 56), (0, u "jdk/internal/util/Preconditions$4"), (57, .class_ 115), (0, u "jdk/internal/util/Preconditions$1"), (7, u "SIOOBE_FORMATTER"), (0, u "Ljava/util/function/BiFunction;"), (0, .class_ 126), (0, u "jdk/internal/util/Preconditions$2"), (3, u "AIOOBE_FORMATTER"), (0, .class_ 132), (0, u "jdk/internal/util/Preconditions$3"), (3, u "IOOBE_FORMATTER")] 57

def k14m0 : Method := { name := "<init>", desc := "()V", sig := { parameters := [], returnType := none }, accessFlags := 1, code := none }
/-- jdk/internal/util/Preconditions -/
def k14 : Class := { plain "jdk/internal/util/Preconditions" (some 0) with
  accessFlags := 33
  interfaces := #[]
  cf := some (fileOf pool14 24 #[.nestMembers #[55, 131, 125, 114]] #[{ accessFlags := 1, nameIndex := 5, descriptorIndex := 6, attributes := #[] }] 33 2 #[] #[{ accessFlags := 25, nameIndex := 123, descriptorIndex := 124, attributes := #[] }, { accessFlags := 25, nameIndex := 130, descriptorIndex := 124, attributes := #[] }, { accessFlags := 25, nameIndex := 136, descriptorIndex := 124, attributes := #[] }])
  fields := #[{ name := "SIOOBE_FORMATTER", type := (.object "java/util/function/BiFunction"), accessFlags := 25, slot := 0, constantValue := 0 }, { name := "AIOOBE_FORMATTER", type := (.object "java/util/function/BiFunction"), accessFlags := 25, slot := 1, constantValue := 0 }, { name := "IOOBE_FORMATTER", type := (.object "java/util/function/BiFunction"), accessFlags := 25, slot := 2, constantValue := 0 }]
  methods := #[k14m0]
  instanceTypes := #[]
  staticTypes := #[(.object "java/util/function/BiFunction"), (.object "java/util/function/BiFunction"), (.object "java/util/function/BiFunction")]
  resolved := Array.replicate 194 none
  statics := some 2 }

def pool15 : Array CpInfo := pool [(9, u "<init>"), (6, .class_ 18), (1, u "java/lang/Object"), (0, u "()V"), (1, .class_ 23), (1, u "jdk/internal/util/ArraysSupport"), (0, u "LOG2_ARRAY_LONG_INDEX_SCALE"), (0, u "I"), (2, u "U"), (0, u "Ljdk/internal/misc/Unsafe;"), (8, u "BIG_ENDIAN"), (0, u "Z"), (8, u "LOG2_BYTE_BIT_SIZE"), (4, u "LOG2_ARRAY_INT_INDEX_SCALE"), (54, u "JLA"), (0, u "Ljdk/internal/access/JavaLangAccess;"), (11, u "LOG2_ARRAY_BOOLEAN_INDEX_SCALE"), (9, u "LOG2_ARRAY_BYTE_INDEX_SCALE"), (5, u "LOG2_ARRAY_CHAR_INDEX_SCALE"), (5, u "LOG2_ARRAY_SHORT_INDEX_SCALE"), (18, u "LOG2_ARRAY_FLOAT_INDEX_SCALE"), (24, u "LOG2_ARRAY_DOUBLE_INDEX_SCALE"), (89, u "T_BOOLEAN"), (2, u "T_CHAR"), (1, u "T_FLOAT"), (1, u "T_DOUBLE"), (1, u "T_BYTE"), (1, u "T_SHORT"), (1, u "T_INT"), (1, u "T_LONG"), (1, u "SOFT_MAX_ARRAY_LENGTH")] 83

def k15m0 : Method := { name := "<init>", desc := "()V", sig := { parameters := [], returnType := none }, accessFlags := 2, code := none }
/-- jdk/internal/util/ArraysSupport -/
def k15 : Class := { plain "jdk/internal/util/ArraysSupport" (some 0) with
  accessFlags := 33
  interfaces := #[]
  cf := some (fileOf pool15 21 #[] #[{ accessFlags := 2, nameIndex := 9, descriptorIndex := 19, attributes := #[] }] 33 16 #[] #[{ accessFlags := 24, nameIndex := 28, descriptorIndex := 29, attributes := #[] }, { accessFlags := 26, nameIndex := 38, descriptorIndex := 39, attributes := #[] }, { accessFlags := 25, nameIndex := 121, descriptorIndex := 25, attributes := #[] }, { accessFlags := 25, nameIndex := 131, descriptorIndex := 25, attributes := #[] }, { accessFlags := 25, nameIndex := 137, descriptorIndex := 25, attributes := #[] }, { accessFlags := 25, nameIndex := 143, descriptorIndex := 25, attributes := #[] }, { accessFlags := 25, nameIndex := 53, descriptorIndex := 25, attributes := #[] }, { accessFlags := 25, nameIndex := 24, descriptorIndex := 25, attributes := #[] }, { accessFlags := 25, nameIndex := 162, descriptorIndex := 25, attributes := #[] }, { accessFlags := 25, nameIndex := 187, descriptorIndex := 25, attributes := #[] }, { accessFlags := 26, nameIndex := 48, descriptorIndex := 25, attributes := #[] }, { accessFlags := 25, nameIndex := 277, descriptorIndex := 25, attributes := #[] }, { accessFlags := 25, nameIndex := 280, descriptorIndex := 25, attributes := #[] }, { accessFlags := 25, nameIndex := 282, descriptorIndex := 25, attributes := #[] }, { accessFlags := 25, nameIndex := 284, descriptorIndex := 25, attributes := #[] }, { accessFlags := 25, nameIndex := 286, descriptorIndex := 25, attributes := #[] }, { accessFlags := 25, nameIndex := 288, descriptorIndex := 25, attributes := #[] }, { accessFlags := 25, nameIndex := 290, descriptorIndex := 25, attributes := #[] }, { accessFlags := 25, nameIndex := 292, descriptorIndex := 25, attributes := #[] }, { accessFlags := 26, nameIndex := 108, descriptorIndex := 109, attributes := #[] }, { accessFlags := 25, nameIndex := 294, descriptorIndex := 25, attributes := #[] }])
  fields := #[{ name := "U", type := (.object "jdk/internal/misc/Unsafe"), accessFlags := 24, slot := 0, constantValue := 0 }, { name := "BIG_ENDIAN", type := .boolean, accessFlags := 26, slot := 1, constantValue := 0 }, { name := "LOG2_ARRAY_BOOLEAN_INDEX_SCALE", type := .int, accessFlags := 25, slot := 2, constantValue := 0 }, { name := "LOG2_ARRAY_BYTE_INDEX_SCALE", type := .int, accessFlags := 25, slot := 3, constantValue := 0 }, { name := "LOG2_ARRAY_CHAR_INDEX_SCALE", type := .int, accessFlags := 25, slot := 4, constantValue := 0 }, { name := "LOG2_ARRAY_SHORT_INDEX_SCALE", type := .int, accessFlags := 25, slot := 5, constantValue := 0 }, { name := "LOG2_ARRAY_INT_INDEX_SCALE", type := .int, accessFlags := 25, slot := 6, constantValue := 0 }, { name := "LOG2_ARRAY_LONG_INDEX_SCALE", type := .int, accessFlags := 25, slot := 7, constantValue := 0 }, { name := "LOG2_ARRAY_FLOAT_INDEX_SCALE", type := .int, accessFlags := 25, slot := 8, constantValue := 0 }, { name := "LOG2_ARRAY_DOUBLE_INDEX_SCALE", type := .int, accessFlags := 25, slot := 9, constantValue := 0 }, { name := "LOG2_BYTE_BIT_SIZE", type := .int, accessFlags := 26, slot := 10, constantValue := 0 }, { name := "T_BOOLEAN", type := .int, accessFlags := 25, slot := 11, constantValue := 0 }, { name := "T_CHAR", type := .int, accessFlags := 25, slot := 12, constantValue := 0 }, { name := "T_FLOAT", type := .int, accessFlags := 25, slot := 13, constantValue := 0 }, { name := "T_DOUBLE", type := .int, accessFlags := 25, slot := 14, constantValue := 0 }, { name := "T_BYTE", type := .int, accessFlags := 25, slot := 15, constantValue := 0 }, { name := "T_SHORT", type := .int, accessFlags := 25, slot := 16, constantValue := 0 }, { name := "T_INT", type := .int, accessFlags := 25, slot := 17, constantValue := 0 }, { name := "T_LONG", type := .int, accessFlags := 25, slot := 18, constantValue := 0 }, { name := "JLA", type := (.object "jdk/internal/access/JavaLangAccess"), accessFlags := 26, slot := 19, constantValue := 0 }, { name := "SOFT_MAX_ARRAY_LENGTH", type := .int, accessFlags := 25, slot := 20, constantValue := 0 }]
  methods := #[k15m0]
  instanceTypes := #[]
  staticTypes := #[(.object "jdk/internal/misc/Unsafe"), .boolean, .int, .int, .int, .int, .int, .int, .int, .int, .int, .int, .int, .int, .int, .int, .int, .int, .int, (.object "jdk/internal/access/JavaLangAccess"), .int]
  resolved := Array.replicate 378 none
  statics := none }

def pool16 : Array CpInfo := pool [(1, u "java/lang/Cloneable"), (0, .class_ 1), (0, u "java/lang/Object"), (0, .class_ 3)] 3

/-- java/lang/Cloneable -/
def k16 : Class := { plain "java/lang/Cloneable" (some 0) with
  accessFlags := 1537
  interfaces := #[]
  cf := some (fileOf pool16 2 #[] #[] 1537 4 #[] #[])
  fields := #[]
  methods := #[]
  instanceTypes := #[]
  staticTypes := #[]
  resolved := Array.replicate 8 none
  statics := none }

/-- the primitive byte -/
def k17 : Class := { plain "byte" none with kind := .primitive 'B', accessFlags := 0x411 }
/-- [B -/
def k18 : Class := { plain "[B" (some 0) with kind := .array 17 .byte, interfaces := #[16, 4], accessFlags := 1041 }

/-- the primitive char -/
def k19 : Class := { plain "char" none with kind := .primitive 'C', accessFlags := 0x411 }
/-- [C -/
def k20 : Class := { plain "[C" (some 0) with kind := .array 19 .char, interfaces := #[16, 4], accessFlags := 1041 }

/-- the primitive int -/
def k21 : Class := { plain "int" none with kind := .primitive 'I', accessFlags := 0x411 }
/-- [I -/
def k22 : Class := { plain "[I" (some 0) with kind := .array 21 .int, interfaces := #[16, 4], accessFlags := 1041 }

def heap : Heap := #[{ cls := 6, slots := #[.ref 3, .ref 3, .ref 3, .ref 3, .ref 3, .null], vm := .statics 6 },
  { cls := 9, slots := #[.long 0, .int 1, .null, .int 0, .null, .int 0, .int 0], vm := .statics 9 },
  { cls := 14, slots := #[.null, .null, .null], vm := .statics 14 },
  { cls := 6, slots := #[.null, .int 0, .int 0], vm := .none }]
def classes : Array Class := #[k0, k1, k2, k3, k4, k5, k6, k7, k8, k9, k10, k11, k12, k13, k14, k15, k16, k17, k18, k19, k20, k21, k22]
def interned : List (Array UInt16 × Addr) := []
def slotsUsed : Nat := 19
def theMethod : MethodId := ⟨1, 1⟩
def args0 : Array Value := #[.int 5, .int 7, .int 1, .int 2, .int 3]
def aboutOver (below : List Frame) : State where
  vm := { classes := classes, interned := interned.toArray }
  heap := heap
  slotsUsed := slotsUsed
  threads := #[{ frames := .invoking theMethod args0 :: below }]
def below0 : List Frame := [.native { method := ⟨0, 0⟩, args := #[] }]
def about1 : State := aboutOver below0
def p0 : Program := .bare "" "" ""
def e0 : Env := launch0.env 0 0 0
theorem w_frames : about1.frames = Frame.invoking theMethod args0 :: below0 := rfl
set_option maxRecDepth 65536 in
theorem w_args : argsFit about1.vm theMethod args0 = true := by decide +kernel
set_option maxRecDepth 65536 in
theorem w_heap : heapFits about1 = true := by decide +kernel
set_option maxRecDepth 65536 in
theorem w_runnable : about1.curStatus? = some .runnable := by decide +kernel
set_option maxRecDepth 65536 in
theorem w_alone : about1.alone = true := by decide +kernel
set_option maxRecDepth 65536 in
theorem w_named : about1.methodNamed? x = some theMethod := by decide +kernel
set_option maxRecDepth 65536 in
theorem w_hears : about1.hears theMethod below0 = true := by decide +kernel
set_option maxRecDepth 65536 in
theorem w_ripe : about1.ripe theMethod args0 below0 = true := by decide +kernel
theorem w_running : about1.status = .running := rfl
set_option maxRecDepth 65536 in
theorem w_room : about1.hasRoom e0.platform room_1 = true :=
  launch0.hasRoom_least _ room_1 (by decide +kernel) (by decide +kernel) (by decide +kernel) (by decide +kernel) (by decide +kernel) (by decide +kernel)
theorem allAtoms_all (ts : List Jvm.Cond) (a : Array Jvm.Value) (st : Jvm.State) : (allAtoms ts).before a st = ts.all (fun c => c.before a st) := by
  induction ts with
  | nil => rfl
  | cons c t ih =>
    show (Jvm.Cond.and c (allAtoms t)).before a st = _
    rw [Jvm.Cond.before_and, ih, List.all_cons]
def words1 : List Jvm.Cond := Jvm.Cond.code x code maxLocals ret :: tables_1
/-- a 'code' word, met by the world's own term for the bytes: nothing is compared byte by byte -/
theorem code_word {y : MethodName} {bytes : ByteArray} {mx : Nat} {rt : Option FieldType} {a : Array Value} {s : State} {m : MethodId} {meth : Method} {c : Code} (h1 : s.methodNamed? y = some m) (h2 : s.vm.method? m = some meth) (h3 : meth.code = some c) (h4 : c.code = bytes)
    (h5 : (c.maxLocals == mx && c.exceptionTable.isEmpty && decide (c.maxStack ≤ mostOperands) && decide (meth.sig.returnType = rt) && !meth.locks && decide (parseMethodDescriptor y.desc = some meth.sig)) = true) : (Jvm.Cond.code y bytes mx rt).before a s = true := by
  simp only [Bool.and_eq_true, beq_iff_eq, Bool.not_eq_true', decide_eq_true_eq] at h5
  obtain ⟨⟨⟨⟨⟨g1, g2⟩, g3⟩, g4⟩, g5⟩, g6⟩ := h5
  simp [Cond.before, Cond.holds, Cond.value, h1, h2, h3, h4, g1, g2, g3, g4, g5, g6]
def isCode : Jvm.Cond → Bool
  | .code _ _ _ _ => true
  | _ => false
theorem all_split {L : List Jvm.Cond} {P : Jvm.Cond → Bool} (h1 : L.all (fun c => isCode c || P c) = true) (h2 : ∀ c ∈ L.filter isCode, P c = true) : L.all P = true := by
  refine List.all_eq_true.mpr fun c hc => ?_
  have h := List.all_eq_true.mp h1 c hc
  rcases Bool.eq_false_or_eq_true (isCode c) with hi | hi
  · exact h2 c (List.mem_filter.mpr ⟨hc, hi⟩)
  · simpa [hi] using h
set_option maxRecDepth 65536 in
theorem w_c0 : (Jvm.Cond.code x code maxLocals ret).before args0 about1 = true := code_word (m := ⟨1, 1⟩) (meth := k1m1) (c := k1c1) (by decide +kernel) rfl rfl rfl (by decide +kernel)
set_option maxRecDepth 65536 in
theorem w_c1 : (Jvm.Cond.code ({ cls := "com/example/tuplet/tuplet/OptionAsRequiredPinLaw", name := "kindOf", desc := "(I)Lcom/example/tuplet/tuplet/Commands$Kind;" } : Jvm.MethodName) method_3_code (1 : Nat) (Option.some (Jvm.ClassFile.FieldType.object "com/example/tuplet/tuplet/Commands$Kind"))).before args0 about1 = true := code_word (m := ⟨1, 2⟩) (meth := k1m2) (c := k1c2) (by decide +kernel) rfl rfl rfl (by decide +kernel)
set_option maxRecDepth 65536 in
theorem w_c2 : (Jvm.Cond.code ({ cls := "com/example/tuplet/tuplet/OptionAsRequiredPinLaw", name := "str", desc := "(I)Ljava/lang/String;" } : Jvm.MethodName) method_4_code (5 : Nat) (Option.some (Jvm.ClassFile.FieldType.object "java/lang/String"))).before args0 about1 = true := code_word (m := ⟨1, 3⟩) (meth := k1m3) (c := k1c3) (by decide +kernel) rfl rfl rfl (by decide +kernel)
set_option maxRecDepth 65536 in
theorem w_c3 : (Jvm.Cond.code ({ cls := "java/lang/String", name := "<init>", desc := "([C)V" } : Jvm.MethodName) jdk_42_method_3_code (2 : Nat) (Option.none : Option Jvm.ClassFile.FieldType)).before args0 about1 = true := code_word (m := ⟨9, 1⟩) (meth := k9m1) (c := k9c1) (by decide +kernel) rfl rfl rfl (by decide +kernel)
set_option maxRecDepth 65536 in
theorem w_c4 : (Jvm.Cond.code ({ cls := "java/lang/String", name := "<init>", desc := "([CIILjava/lang/Void;)V" } : Jvm.MethodName) jdk_42_method_149_code (6 : Nat) (Option.none : Option Jvm.ClassFile.FieldType)).before args0 about1 = true := code_word (m := ⟨9, 3⟩) (meth := k9m3) (c := k9c3) (by decide +kernel) rfl rfl rfl (by decide +kernel)
set_option maxRecDepth 65536 in
theorem w_c5 : (Jvm.Cond.code ({ cls := "java/lang/Object", name := "<init>", desc := "()V" } : Jvm.MethodName) object_method_1_code (1 : Nat) (Option.none : Option Jvm.ClassFile.FieldType)).before args0 about1 = true := code_word (m := ⟨0, 0⟩) (meth := k0m0) (c := k0c0) (by decide +kernel) rfl rfl rfl (by decide +kernel)
set_option maxRecDepth 65536 in
theorem w_c6 : (Jvm.Cond.code ({ cls := "com/example/tuplet/tuplet/Commands$Option", name := "<init>", desc := "(Ljava/lang/String;Lcom/example/tuplet/tuplet/Commands$Kind;Ljava/lang/String;Ljava/lang/String;ZLjava/lang/String;)V" } : Jvm.MethodName) prog_6_method_1_code (7 : Nat) (Option.none : Option Jvm.ClassFile.FieldType)).before args0 about1 = true := code_word (m := ⟨11, 0⟩) (meth := k11m0) (c := k11c0) (by decide +kernel) rfl rfl rfl (by decide +kernel)
set_option maxRecDepth 65536 in
theorem w_c7 : (Jvm.Cond.code ({ cls := "java/lang/Record", name := "<init>", desc := "()V" } : Jvm.MethodName) jdk_30_method_1_code (1 : Nat) (Option.none : Option Jvm.ClassFile.FieldType)).before args0 about1 = true := code_word (m := ⟨10, 0⟩) (meth := k10m0) (c := k10c0) (by decide +kernel) rfl rfl rfl (by decide +kernel)
set_option maxRecDepth 65536 in
theorem w_c8 : (Jvm.Cond.code ({ cls := "com/example/tuplet/tuplet/Commands$Option", name := "asRequired", desc := "()Lcom/example/tuplet/tuplet/Commands$Option;" } : Jvm.MethodName) prog_6_method_4_code (1 : Nat) (Option.some (Jvm.ClassFile.FieldType.object "com/example/tuplet/tuplet/Commands$Option"))).before args0 about1 = true := code_word (m := ⟨11, 1⟩) (meth := k11m1) (c := k11c1) (by decide +kernel) rfl rfl rfl (by decide +kernel)
set_option maxRecDepth 65536 in
theorem w_c9 : (Jvm.Cond.code ({ cls := "com/example/tuplet/tuplet/Commands$Option", name := "byDefault", desc := "()Ljava/lang/String;" } : Jvm.MethodName) prog_6_method_15_code (1 : Nat) (Option.some (Jvm.ClassFile.FieldType.object "java/lang/String"))).before args0 about1 = true := code_word (m := ⟨11, 7⟩) (meth := k11m7) (c := k11c7) (by decide +kernel) rfl rfl rfl (by decide +kernel)
set_option maxRecDepth 65536 in
theorem w_c10 : (Jvm.Cond.code ({ cls := "com/example/tuplet/tuplet/Commands$Option", name := "name", desc := "()Ljava/lang/String;" } : Jvm.MethodName) prog_6_method_10_code (1 : Nat) (Option.some (Jvm.ClassFile.FieldType.object "java/lang/String"))).before args0 about1 = true := code_word (m := ⟨11, 2⟩) (meth := k11m2) (c := k11c2) (by decide +kernel) rfl rfl rfl (by decide +kernel)
set_option maxRecDepth 65536 in
theorem w_c11 : (Jvm.Cond.code ({ cls := "java/lang/String", name := "equals", desc := "(Ljava/lang/Object;)Z" } : Jvm.MethodName) jdk_42_method_66_code (3 : Nat) (Option.some Jvm.ClassFile.FieldType.boolean)).before args0 about1 = true := code_word (m := ⟨9, 2⟩) (meth := k9m2) (c := k9c2) (by decide +kernel) rfl rfl rfl (by decide +kernel)
set_option maxRecDepth 65536 in
theorem w_c12 : (Jvm.Cond.code ({ cls := "com/example/tuplet/tuplet/Commands$Option", name := "kind", desc := "()Lcom/example/tuplet/tuplet/Commands$Kind;" } : Jvm.MethodName) prog_6_method_11_code (1 : Nat) (Option.some (Jvm.ClassFile.FieldType.object "com/example/tuplet/tuplet/Commands$Kind"))).before args0 about1 = true := code_word (m := ⟨11, 3⟩) (meth := k11m3) (c := k11c3) (by decide +kernel) rfl rfl rfl (by decide +kernel)
set_option maxRecDepth 65536 in
theorem w_c13 : (Jvm.Cond.code ({ cls := "com/example/tuplet/tuplet/Commands$Option", name := "label", desc := "()Ljava/lang/String;" } : Jvm.MethodName) prog_6_method_12_code (1 : Nat) (Option.some (Jvm.ClassFile.FieldType.object "java/lang/String"))).before args0 about1 = true := code_word (m := ⟨11, 4⟩) (meth := k11m4) (c := k11c4) (by decide +kernel) rfl rfl rfl (by decide +kernel)
set_option maxRecDepth 65536 in
theorem w_c14 : (Jvm.Cond.code ({ cls := "com/example/tuplet/tuplet/Commands$Option", name := "help", desc := "()Ljava/lang/String;" } : Jvm.MethodName) prog_6_method_13_code (1 : Nat) (Option.some (Jvm.ClassFile.FieldType.object "java/lang/String"))).before args0 about1 = true := code_word (m := ⟨11, 5⟩) (meth := k11m5) (c := k11c5) (by decide +kernel) rfl rfl rfl (by decide +kernel)
set_option maxRecDepth 65536 in
theorem w_c15 : (Jvm.Cond.code ({ cls := "com/example/tuplet/tuplet/Commands$Option", name := "required", desc := "()Z" } : Jvm.MethodName) prog_6_method_14_code (1 : Nat) (Option.some Jvm.ClassFile.FieldType.boolean)).before args0 about1 = true := code_word (m := ⟨11, 6⟩) (meth := k11m6) (c := k11c6) (by decide +kernel) rfl rfl rfl (by decide +kernel)
set_option maxRecDepth 65536 in
theorem w_c16 : (Jvm.Cond.code ({ cls := "java/lang/StringUTF16", name := "compress", desc := "([CII)[B" } : Jvm.MethodName) jdk_52_method_16_code (6 : Nat) (Option.some (Jvm.ClassFile.FieldType.array Jvm.ClassFile.FieldType.byte))).before args0 about1 = true := code_word (m := ⟨12, 2⟩) (meth := k12m2) (c := k12c2) (by decide +kernel) rfl rfl rfl (by decide +kernel)
set_option maxRecDepth 65536 in
theorem w_c17 : (Jvm.Cond.code ({ cls := "java/lang/StringUTF16", name := "compress", desc := "([CI[BII)I" } : Jvm.MethodName) jdk_52_method_21_code (7 : Nat) (Option.some Jvm.ClassFile.FieldType.int)).before args0 about1 = true := code_word (m := ⟨12, 3⟩) (meth := k12m3) (c := k12c3) (by decide +kernel) rfl rfl rfl (by decide +kernel)
set_option maxRecDepth 65536 in
theorem w_c18 : (Jvm.Cond.code ({ cls := "java/lang/StringUTF16", name := "coderFromArrayLen", desc := "([BI)B" } : Jvm.MethodName) jdk_52_method_15_code (2 : Nat) (Option.some Jvm.ClassFile.FieldType.byte)).before args0 about1 = true := code_word (m := ⟨12, 1⟩) (meth := k12m1) (c := k12c1) (by decide +kernel) rfl rfl rfl (by decide +kernel)
def codes1 : List Jvm.Cond := [Jvm.Cond.code x code maxLocals ret, Jvm.Cond.code ({ cls := "com/example/tuplet/tuplet/OptionAsRequiredPinLaw", name := "kindOf", desc := "(I)Lcom/example/tuplet/tuplet/Commands$Kind;" } : Jvm.MethodName) method_3_code (1 : Nat) (Option.some (Jvm.ClassFile.FieldType.object "com/example/tuplet/tuplet/Commands$Kind")), Jvm.Cond.code ({ cls := "com/example/tuplet/tuplet/OptionAsRequiredPinLaw", name := "str", desc := "(I)Ljava/lang/String;" } : Jvm.MethodName) method_4_code (5 : Nat) (Option.some (Jvm.ClassFile.FieldType.object "java/lang/String")), Jvm.Cond.code ({ cls := "java/lang/String", name := "<init>", desc := "([C)V" } : Jvm.MethodName) jdk_42_method_3_code (2 : Nat) (Option.none : Option Jvm.ClassFile.FieldType), Jvm.Cond.code ({ cls := "java/lang/String", name := "<init>", desc := "([CIILjava/lang/Void;)V" } : Jvm.MethodName) jdk_42_method_149_code (6 : Nat) (Option.none : Option Jvm.ClassFile.FieldType), Jvm.Cond.code ({ cls := "java/lang/Object", name := "<init>", desc := "()V" } : Jvm.MethodName) object_method_1_code (1 : Nat) (Option.none : Option Jvm.ClassFile.FieldType), Jvm.Cond.code ({ cls := "com/example/tuplet/tuplet/Commands$Option", name := "<init>", desc := "(Ljava/lang/String;Lcom/example/tuplet/tuplet/Commands$Kind;Ljava/lang/String;Ljava/lang/String;ZLjava/lang/String;)V" } : Jvm.MethodName) prog_6_method_1_code (7 : Nat) (Option.none : Option Jvm.ClassFile.FieldType), Jvm.Cond.code ({ cls := "java/lang/Record", name := "<init>", desc := "()V" } : Jvm.MethodName) jdk_30_method_1_code (1 : Nat) (Option.none : Option Jvm.ClassFile.FieldType), Jvm.Cond.code ({ cls := "com/example/tuplet/tuplet/Commands$Option", name := "asRequired", desc := "()Lcom/example/tuplet/tuplet/Commands$Option;" } : Jvm.MethodName) prog_6_method_4_code (1 : Nat) (Option.some (Jvm.ClassFile.FieldType.object "com/example/tuplet/tuplet/Commands$Option")), Jvm.Cond.code ({ cls := "com/example/tuplet/tuplet/Commands$Option", name := "byDefault", desc := "()Ljava/lang/String;" } : Jvm.MethodName) prog_6_method_15_code (1 : Nat) (Option.some (Jvm.ClassFile.FieldType.object "java/lang/String")), Jvm.Cond.code ({ cls := "com/example/tuplet/tuplet/Commands$Option", name := "name", desc := "()Ljava/lang/String;" } : Jvm.MethodName) prog_6_method_10_code (1 : Nat) (Option.some (Jvm.ClassFile.FieldType.object "java/lang/String")), Jvm.Cond.code ({ cls := "java/lang/String", name := "equals", desc := "(Ljava/lang/Object;)Z" } : Jvm.MethodName) jdk_42_method_66_code (3 : Nat) (Option.some Jvm.ClassFile.FieldType.boolean), Jvm.Cond.code ({ cls := "com/example/tuplet/tuplet/Commands$Option", name := "kind", desc := "()Lcom/example/tuplet/tuplet/Commands$Kind;" } : Jvm.MethodName) prog_6_method_11_code (1 : Nat) (Option.some (Jvm.ClassFile.FieldType.object "com/example/tuplet/tuplet/Commands$Kind")), Jvm.Cond.code ({ cls := "com/example/tuplet/tuplet/Commands$Option", name := "label", desc := "()Ljava/lang/String;" } : Jvm.MethodName) prog_6_method_12_code (1 : Nat) (Option.some (Jvm.ClassFile.FieldType.object "java/lang/String")), Jvm.Cond.code ({ cls := "com/example/tuplet/tuplet/Commands$Option", name := "help", desc := "()Ljava/lang/String;" } : Jvm.MethodName) prog_6_method_13_code (1 : Nat) (Option.some (Jvm.ClassFile.FieldType.object "java/lang/String")), Jvm.Cond.code ({ cls := "com/example/tuplet/tuplet/Commands$Option", name := "required", desc := "()Z" } : Jvm.MethodName) prog_6_method_14_code (1 : Nat) (Option.some Jvm.ClassFile.FieldType.boolean), Jvm.Cond.code ({ cls := "java/lang/StringUTF16", name := "compress", desc := "([CII)[B" } : Jvm.MethodName) jdk_52_method_16_code (6 : Nat) (Option.some (Jvm.ClassFile.FieldType.array Jvm.ClassFile.FieldType.byte)), Jvm.Cond.code ({ cls := "java/lang/StringUTF16", name := "compress", desc := "([CI[BII)I" } : Jvm.MethodName) jdk_52_method_21_code (7 : Nat) (Option.some Jvm.ClassFile.FieldType.int), Jvm.Cond.code ({ cls := "java/lang/StringUTF16", name := "coderFromArrayLen", desc := "([BI)B" } : Jvm.MethodName) jdk_52_method_15_code (2 : Nat) (Option.some Jvm.ClassFile.FieldType.byte)]
set_option maxRecDepth 65536 in
theorem codes_eq : words1.filter isCode = codes1 := rfl
theorem w_codes : ∀ c ∈ words1.filter isCode, c.before args0 about1 = true := by
  rw [codes_eq]
  intro c hc
  simp only [codes1, List.mem_cons, List.not_mem_nil, or_false] at hc
  rcases hc with rfl | rfl | rfl | rfl | rfl | rfl | rfl | rfl | rfl | rfl | rfl | rfl | rfl | rfl | rfl | rfl | rfl | rfl | rfl
  · exact w_c0
  · exact w_c1
  · exact w_c2
  · exact w_c3
  · exact w_c4
  · exact w_c5
  · exact w_c6
  · exact w_c7
  · exact w_c8
  · exact w_c9
  · exact w_c10
  · exact w_c11
  · exact w_c12
  · exact w_c13
  · exact w_c14
  · exact w_c15
  · exact w_c16
  · exact w_c17
  · exact w_c18
set_option maxRecDepth 65536 in
theorem w_t1 : (words1.take 24).all (fun c => isCode c || c.before args0 about1) = true := by decide +kernel
set_option maxRecDepth 65536 in
theorem w_t2 : ((words1.drop 24).take 24).all (fun c => isCode c || c.before args0 about1) = true := by decide +kernel
set_option maxRecDepth 65536 in
theorem w_t3 : (((words1.drop 24).drop 24).take 24).all (fun c => isCode c || c.before args0 about1) = true := by decide +kernel
set_option maxRecDepth 65536 in
theorem w_t4 : ((((words1.drop 24).drop 24).drop 24).take 24).all (fun c => isCode c || c.before args0 about1) = true := by decide +kernel
set_option maxRecDepth 65536 in
theorem w_t5 : ((((words1.drop 24).drop 24).drop 24).drop 24).all (fun c => isCode c || c.before args0 about1) = true := by decide +kernel
theorem w_tables : (allAtoms (Jvm.Cond.code x code maxLocals ret :: tables_1)).before args0 about1 = true := by
  rw [allAtoms_all]
  show words1.all (fun c => c.before args0 about1) = true
  refine all_split ?_ w_codes
  rw [← List.take_append_drop 24 words1, List.all_append, w_t1, ← List.take_append_drop 24 (words1.drop 24), List.all_append, w_t2, ← List.take_append_drop 24 ((words1.drop 24).drop 24), List.all_append, w_t3, ← List.take_append_drop 24 (((words1.drop 24).drop 24).drop 24), List.all_append, w_t4, w_t5]
  rfl
set_option maxRecDepth 65536 in
theorem w_rest : rest_1_c.before args0 about1 = true := by decide +kernel
set_option maxRecDepth 65536 in
theorem w_case : (Jvm.Cond.and given_1 narrow_1).before args0 about1 = true := by decide +kernel
set_option maxRecDepth 65536 in
theorem w_consts : constsHeld consts_1 about1 := Jvm.Lit.constsHeldB_iff.mp (by decide +kernel)
theorem w_applies : (headSpec (Jvm.Cond.code x code maxLocals ret :: tables_1) room_1).applies x e0.platform about1 = true :=
  (Spec.applies_iff w_frames).mpr ⟨w_running, w_runnable, w_alone, w_named, w_hears, w_ripe, w_room, w_tables⟩
theorem atStart : AtStart classFile x code maxLocals ret World_1 tables_1 room_1 Calls_1 rest_1 Pre_1 launch0 p0 e0 about1 theMethod args0 below0 :=
  ⟨lists_1, trivial, launch0.admits_env _ _ _, launch0.least_env, fairChoices_fair.cas, fairChoices_fair.clock, w_frames, w_args, w_heap, w_applies, ⟨w_consts, trivial⟩, w_rest, w_case⟩
end start1
theorem witness_1 : WitnessClaimed_1 := ⟨start1.p0, start1.e0, start1.about1, start1.theMethod, start1.args0, start1.below0, start1.atStart⟩
end Jvm.Pilot.@@N@@
