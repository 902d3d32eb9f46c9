import JvmDerived
import JvmDerived.Pilot.@@N@@Statement
import JvmDerived.Pilot.@@N@@Code
set_option linter.unusedVariables false
set_option linter.unusedSimpArgs false
/- laws to paste: Road.backV (cut by pick.py; bodies as the Statement names them) -/
namespace Jvm.Pilot.@@N@@
namespace StrChars
open Jvm Sem ClassFile Op Lib Jvm.Stand Jvm.Free.XT Jvm.Free.ALB Jvm.Free.JM Jvm.Free
open Jvm.Lib.Cold (StaticIs)
/-- a char array whose places are chars -/
def Ch (a : Addr) (A : Cell) (U : State) : Prop := Arr .char a A U ∧ Typed .char A
theorem Ch.mv {a : Addr} {A : Cell} {U U' : State} (h : Ch a A U) (hal : U.vm.Alike U'.vm) (hh : U'.heap = U.heap) : Ch a A U' := ⟨h.1.mv hal hh, h.2⟩
theorem Ch.keep {a : Addr} {A : Cell} {U U' : State} (h : Ch a A U) (hal : U.vm.Alike U'.vm) (hk : U'.heap[a]? = some A) : Ch a A U' := ⟨h.1.keep hal hk, h.2⟩
/-- what place i of a char[]'s cell holds -/
def cv (A : Cell) (i : Nat) : Int32 := match A.slots[i]? with | some (.int x) => x | _ => 0
theorem Ch.get {a : Addr} {A : Cell} {U : State} (h : Ch a A U) {i : Nat} (hi : i < A.slots.size) : A.slots[i]? = some (.int (cv A i)) := by
  have e := Array.getElem?_eq_getElem hi
  have f := h.2 i _ e
  unfold cv; rw [e]
  generalize A.slots[i] = v at f
  cases v <;> simp [fits] at f ⊢
/-- the byte that i2b leaves of a char -/
def lo8 (x : Int32) : Int32 := x.toInt8.toInt32
theorem fits_lo8 (y : Int32) : fits .byte (.int (lo8 y)) = true := by
  have h1 := y.toInt8.le_toInt
  have h2 := y.toInt8.toInt_lt
  simp only [lo8, fits, Bool.and_eq_true, decide_eq_true_eq, Int32.le_iff_toInt_le, Int8.toInt_toInt32, show (-128 : Int32).toInt = -128 from by decide, show (127 : Int32).toInt = 127 from by decide]
  omega
/-- A' is A but that each place j of lo .. hi - 1 holds f j -/
def Laid (A A' : Cell) (lo hi : Nat) (f : Nat → Value) : Prop := A'.cls = A.cls ∧ A'.vm = A.vm ∧ A'.slots.size = A.slots.size ∧ ∀ i, A'.slots[i]? = if lo ≤ i ∧ i < hi then some (f i) else A.slots[i]?
theorem Laid.zero (A : Cell) (lo : Nat) (f : Nat → Value) : Laid A A lo (lo + 0) f := ⟨rfl, rfl, rfl, fun i => by rw [if_neg (by omega)]⟩
theorem Laid.step {A Ak : Cell} {lo k : Nat} {f : Nat → Value} {v : Value} (h : Laid A Ak lo k f) (hlo : lo ≤ k) (hk : k < Ak.slots.size) (hv : v = f k) : Laid A (Ak.setSlot k v) lo (k + 1) f := by
  refine ⟨h.1, h.2.1, by simpa [Cell.setSlot] using h.2.2.1, fun i => ?_⟩
  by_cases e : k = i
  · subst e; rw [Cell.slots_setSlot_self v hk, if_pos (by omega), hv]
  · rw [Cell.slots_setSlot_ne v e, h.2.2.2 i]
    by_cases q : lo ≤ i ∧ i < k
    · rw [if_pos q, if_pos (by omega)]
    · rw [if_neg q, if_neg (by omega)]
def U16 : String := "java/lang/StringUTF16"
namespace Cmp5
def yN : MethodName := ⟨"java/lang/StringUTF16", "compress", "([CI[BII)I"⟩
abbrev yB : ByteArray := jdk_52_method_21_code
theorem d0 : decode yB 0 = .ok (.iconst 0, 1) := by decide +kernel
theorem d1 : decode yB 1 = .ok (.istore 5, 2) := by decide +kernel
theorem d3 : decode yB 3 = .ok (.iload 5, 2) := by decide +kernel
theorem d5 : decode yB 5 = .ok (.iload 4, 2) := by decide +kernel
theorem d7 : decode yB 7 = .ok (.if_icmp (.ge) 37, 3) := by decide +kernel
theorem d10 : decode yB 10 = .ok (.aload_n 0, 1) := by decide +kernel
theorem d11 : decode yB 11 = .ok (.iload_n 1, 1) := by decide +kernel
theorem d12 : decode yB 12 = .ok (.caload, 1) := by decide +kernel
theorem d13 : decode yB 13 = .ok (.istore 6, 2) := by decide +kernel
theorem d15 : decode yB 15 = .ok (.iload 6, 2) := by decide +kernel
theorem d17 : decode yB 17 = .ok (.sipush 255, 3) := by decide +kernel
theorem d20 : decode yB 20 = .ok (.if_icmp (.le) 6, 3) := by decide +kernel
theorem d26 : decode yB 26 = .ok (.aload_n 2, 1) := by decide +kernel
theorem d27 : decode yB 27 = .ok (.iload_n 3, 1) := by decide +kernel
theorem d28 : decode yB 28 = .ok (.iload 6, 2) := by decide +kernel
theorem d30 : decode yB 30 = .ok (.i2b, 1) := by decide +kernel
theorem d31 : decode yB 31 = .ok (.bastore, 1) := by decide +kernel
theorem d32 : decode yB 32 = .ok (.iinc 1 1, 3) := by decide +kernel
theorem d35 : decode yB 35 = .ok (.iinc 3 1, 3) := by decide +kernel
theorem d38 : decode yB 38 = .ok (.iinc 5 1, 3) := by decide +kernel
theorem d41 : decode yB 41 = .ok (.goto (-38), 3) := by decide +kernel
theorem d44 : decode yB 44 = .ok (.iload 4, 2) := by decide +kernel
theorem d46 : decode yB 46 = .ok (.ireturn, 1) := by decide +kernel
def site : List Cond := []
def tab : Cond := tabOf yN yB 7 (some .int) site
def P (b : Addr) (A : Cell) (d : Addr) (B : Cell) (o q len : Nat) (args : Array Value) (s : State) : Prop := args = #[.ref b, .int (Int32.ofNat o), .ref d, .int (Int32.ofNat q), .int (Int32.ofNat len)] ∧ Ch b A s ∧ Arr .byte d B s ∧ b ≠ d ∧ o + len ≤ A.slots.size ∧ q + len ≤ B.slots.size ∧ ∀ i, i < len → ¬ 255 < cv A (o + i)
def E (b : Addr) (A : Cell) (d : Addr) (B : Cell) (o q len : Nat) (r : Option Value) (s u : State) : Prop := r = some (.int (Int32.ofNat len)) ∧ ∃ B', Put d B' s u ∧ Laid B B' q (q + len) (fun j => Value.int (lo8 (cv A (o + (j - q)))))
/-- no char of the range above 255: len; the places written hold each char's low byte -/
theorem law (l : Launch) (b : Addr) (A : Cell) (d : Addr) (B : Cell) (o q len : Nat) : Law l yN 5 5 0 0 yB 7 (some .int) site (P b A d B o q len) (E b A d B o q len) (copyLocs d q len) 0 0 := by
  refine Law.of_walk (plainFor_of_name (by decide +kernel)) (by decide +kernel) (by decide +kernel) (by decide) (fun _ _ h => by rw [h.1]; rfl) (fun _ U U' hal hh h => ⟨h.1, h.2.1.mv hal hh, h.2.2.1.mv hal hh, h.2.2.2⟩) (fun r U U' V V' h1 hal h2 h => ⟨h.1, h.2.elim fun B' q => ⟨B', q.1.mv h1 h2, q.2⟩⟩) ?_
  intro p e s m args below meth c s₁ X0 hexec hbytes hml hret hlk hnm hown hh0 W hP
  obtain ⟨rfl, hA, hB, hne, l1, l2, hp⟩ := hP
  have c1 : Steps p.tables e below (s₁.setTop (entryFrame m #[.ref b, .int (Int32.ofNat o), .ref d, .int (Int32.ofNat q), .int (Int32.ofNat len)] 7)) (s₁.setTop (mkF m 0 #[.val (.ref b), .val (.int (Int32.ofNat o)), .val (.ref d), .val (.int (Int32.ofNat q)), .val (.int (Int32.ofNat len)), .unset, .unset] [])) := entry rfl
  have hA0 := hA.1.mv X0.warmed.alike hh0
  have hB0 := hB.mv X0.warmed.alike hh0
  have a31 := hA.1.2.2.2
  have c2 : Steps p.tables e below (s₁.setTop (entryFrame m #[.ref b, .int (Int32.ofNat o), .ref d, .int (Int32.ofNat q), .int (Int32.ofNat len)] 7)) (s₁.setTop (mkF m 3 #[.val (.ref b), .val (.int (Int32.ofNat o)), .val (.ref d), .val (.int (Int32.ofNat q)), .val (.int (Int32.ofNat len)), .val (.int 0), .unset] [])) := c1.trans (by
    refine iconstV X0.here hexec rfl 0 (hb hbytes d0) (by decide) ?_
    refine XS.istore X0.here hexec rfl (hb hbytes d1) rfl rfl ?_
    exact Steps.refl _)
  have loop : ∀ (r i : Nat), i + r = len → ∀ (z : Slot), (z = .unset ∨ ∃ w, z = .val w ∧ w.category = 1) → ∀ (Tl : State) (Bk : Cell), Stand p l e { frames := 0, locals := 0, cells := 0, slots := 0 } s m #[.ref b, .int (Int32.ofNat o), .ref d, .int (Int32.ofNat q), .int (Int32.ofNat len)] below meth c Tl ([] ++ copyLocs d q i) 0 0 → Put d Bk s₁ Tl → Laid B Bk q (q + i) (fun j => Value.int (lo8 (cv A (o + (j - q))))) →
      Steps p.tables e below (s₁.setTop (entryFrame m #[.ref b, .int (Int32.ofNat o), .ref d, .int (Int32.ofNat q), .int (Int32.ofNat len)] 7)) (Tl.setTop (mkF m 3 #[.val (.ref b), .val (.int (Int32.ofNat (o + i))), .val (.ref d), .val (.int (Int32.ofNat (q + i))), .val (.int (Int32.ofNat len)), .val (.int (Int32.ofNat i)), z] [])) → ∃ (T' : State) (B' : Cell) (z' : Slot), Stand p l e { frames := 0, locals := 0, cells := 0, slots := 0 } s m #[.ref b, .int (Int32.ofNat o), .ref d, .int (Int32.ofNat q), .int (Int32.ofNat len)] below meth c T' ([] ++ copyLocs d q len) 0 0 ∧ Put d B' s₁ T' ∧ Laid B B' q (q + len) (fun j => Value.int (lo8 (cv A (o + (j - q))))) ∧
      Steps p.tables e below (s₁.setTop (entryFrame m #[.ref b, .int (Int32.ofNat o), .ref d, .int (Int32.ofNat q), .int (Int32.ofNat len)] 7)) (T'.setTop (mkF m 3 #[.val (.ref b), .val (.int (Int32.ofNat (o + len))), .val (.ref d), .val (.int (Int32.ofNat (q + len))), .val (.int (Int32.ofNat len)), .val (.int (Int32.ofNat len)), z'] [])) := by
    intro r
    induction r with
    | zero =>
      intro i hi z hz Tl Bk Xl pl fl cl
      have hil : i = len := by omega
      rw [hil] at Xl fl cl
      exact ⟨Tl, Bk, z, Xl, pl, fl, cl⟩
    | succ r ih =>
      intro i hi z hz Tl Bk Xl pl fl cl
      have all := X0.warmed.alike.symm.trans Xl.warmed.alike
      have hAl := hA0.keep all (pl.other hne hA0.1)
      have hBk := hB0.like all pl.1 fl.1 fl.2.1 fl.2.2.1
      have hlt : q + i < Bk.slots.size := by rw [fl.2.2.1]; omega
      have c3 : Steps p.tables e below (s₁.setTop (entryFrame m #[.ref b, .int (Int32.ofNat o), .ref d, .int (Int32.ofNat q), .int (Int32.ofNat len)] 7)) (Tl.setTop (mkF m 12 #[.val (.ref b), .val (.int (Int32.ofNat (o + i))), .val (.ref d), .val (.int (Int32.ofNat (q + i))), .val (.int (Int32.ofNat len)), .val (.int (Int32.ofNat i)), z] [.int (Int32.ofNat (o + i)), .ref b])) := cl.trans (by
        refine XS.iload Xl.here hexec rfl (hb hbytes d3) rfl ?_
        refine XS.iload Xl.here hexec rfl (hb hbytes d5) rfl ?_
        refine XS.icmpNo Xl.here hexec rfl (hb hbytes d7) rfl (ii_ge_f (lt32 (by omega) (by omega))) ?_
        refine XS.aloadN Xl.here hexec rfl (hb hbytes d10) rfl rfl ?_
        refine XS.iloadN Xl.here hexec rfl (hb hbytes d11) rfl ?_
        exact Steps.refl _)
      have c4 : Steps p.tables e below (s₁.setTop (entryFrame m #[.ref b, .int (Int32.ofNat o), .ref d, .int (Int32.ofNat q), .int (Int32.ofNat len)] 7)) (Tl.setTop (mkF m 13 #[.val (.ref b), .val (.int (Int32.ofNat (o + i))), .val (.ref d), .val (.int (Int32.ofNat (q + i))), .val (.int (Int32.ofNat len)), .val (.int (Int32.ofNat i)), z] [.int (cv A (o + i))])) := c3.trans (by
        refine Xl.aget hexec hAl rfl (hA.get (i := o + i) (by omega)) rfl rfl (hb hbytes d12) ?_
        exact Steps.refl _)
      have c5 : Steps p.tables e below (s₁.setTop (entryFrame m #[.ref b, .int (Int32.ofNat o), .ref d, .int (Int32.ofNat q), .int (Int32.ofNat len)] 7)) (Tl.setTop (mkF m 15 #[.val (.ref b), .val (.int (Int32.ofNat (o + i))), .val (.ref d), .val (.int (Int32.ofNat (q + i))), .val (.int (Int32.ofNat len)), .val (.int (Int32.ofNat i)), .val (.int (cv A (o + i)))] [])) := c4.trans (by
        refine XS.istoreS Xl.here hexec rfl (hb hbytes d13) rfl rfl hz ?_
        exact Steps.refl _)
      have c6 : Steps p.tables e below (s₁.setTop (entryFrame m #[.ref b, .int (Int32.ofNat o), .ref d, .int (Int32.ofNat q), .int (Int32.ofNat len)] 7)) (Tl.setTop (mkF m 31 #[.val (.ref b), .val (.int (Int32.ofNat (o + i))), .val (.ref d), .val (.int (Int32.ofNat (q + i))), .val (.int (Int32.ofNat len)), .val (.int (Int32.ofNat i)), .val (.int (cv A (o + i)))] [.int (lo8 (cv A (o + i))), .int (Int32.ofNat (q + i)), .ref d])) := c5.trans (by
        refine XS.iload Xl.here hexec rfl (hb hbytes d15) rfl ?_
        refine sipushV Xl.here hexec rfl 255 (hb hbytes d17) (by decide) ?_
        refine XS.icmpYes Xl.here hexec rfl (pc0 := 20) rfl (hb hbytes d20) rfl (ii_le_t (hp i (by omega))) (by decide) rfl ?_
        refine XS.aloadN Xl.here hexec rfl (hb hbytes d26) rfl rfl ?_
        refine XS.iloadN Xl.here hexec rfl (hb hbytes d27) rfl ?_
        refine XS.iload Xl.here hexec rfl (hb hbytes d28) rfl ?_
        refine i2b Xl.here hexec rfl (hb hbytes d30) rfl ?_
        exact Steps.refl _)
      obtain ⟨T7, X7, p7, st7⟩ := Xl.aput hexec hBk rfl hlt rfl (fits_lo8 (cv A (o + i))) (g := (mkF m 31 #[.val (.ref b), .val (.int (Int32.ofNat (o + i))), .val (.ref d), .val (.int (Int32.ofNat (q + i))), .val (.int (Int32.ofNat len)), .val (.int (Int32.ofNat i)), .val (.int (cv A (o + i)))] [.int (lo8 (cv A (o + i))), .int (Int32.ofNat (q + i)), .ref d])) rfl (rest := []) rfl (hb hbytes d31)
      have c8 : Steps p.tables e below (s₁.setTop (entryFrame m #[.ref b, .int (Int32.ofNat o), .ref d, .int (Int32.ofNat q), .int (Int32.ofNat len)] 7)) (T7.setTop (mkF m 32 #[.val (.ref b), .val (.int (Int32.ofNat (o + i))), .val (.ref d), .val (.int (Int32.ofNat (q + i))), .val (.int (Int32.ofNat len)), .val (.int (Int32.ofNat i)), .val (.int (cv A (o + i)))] [])) := c6.trans (st7 _ (Steps.refl _))
      have c9 : Steps p.tables e below (s₁.setTop (entryFrame m #[.ref b, .int (Int32.ofNat o), .ref d, .int (Int32.ofNat q), .int (Int32.ofNat len)] 7)) (T7.setTop (mkF m 3 #[.val (.ref b), .val (.int (Int32.ofNat (o + i) + 1)), .val (.ref d), .val (.int (Int32.ofNat (q + i) + 1)), .val (.int (Int32.ofNat len)), .val (.int (Int32.ofNat i + 1)), .val (.int (cv A (o + i)))] [])) := c8.trans (by
        refine iincV X7.here hexec rfl 1 (hb hbytes d32) (by decide) rfl rfl ?_
        refine iincV X7.here hexec rfl 1 (hb hbytes d35) (by decide) rfl rfl ?_
        refine iincV X7.here hexec rfl 1 (hb hbytes d38) (by decide) rfl rfl ?_
        refine XS.goto X7.here hexec rfl (pc0 := 41) rfl (hb hbytes d41) (by decide) rfl ?_
        exact Steps.refl _)
      have c10 : Steps p.tables e below (s₁.setTop (entryFrame m #[.ref b, .int (Int32.ofNat o), .ref d, .int (Int32.ofNat q), .int (Int32.ofNat len)] 7)) (T7.setTop (mkF m 3 #[.val (.ref b), .val (.int (Int32.ofNat (o + (i + 1)))), .val (.ref d), .val (.int (Int32.ofNat (q + (i + 1)))), .val (.int (Int32.ofNat len)), .val (.int (Int32.ofNat (i + 1))), .val (.int (cv A (o + i)))] [])) := by
        have := c9
        rw [succ32, succ32, succ32] at this
        exact this
      exact ih (i + 1) (by omega) _ (Or.inr ⟨_, rfl, rfl⟩) T7 _ (by rw [copyLocs_step, ← List.append_assoc]; exact X7) (pl.trans p7) (fl.step (by omega) hlt (by simp)) c10
  obtain ⟨T9, B9, z9, X9, p9, f9, g9⟩ := loop len 0 (by omega) .unset (Or.inl rfl) s₁ B (by simpa [copyLocs] using X0) ⟨hB0.1, fun _ _ => rfl, rfl⟩ (Laid.zero _ _ _) c2
  have c11 : Steps p.tables e below (s₁.setTop (entryFrame m #[.ref b, .int (Int32.ofNat o), .ref d, .int (Int32.ofNat q), .int (Int32.ofNat len)] 7)) (T9.setTop (mkF m 46 #[.val (.ref b), .val (.int (Int32.ofNat (o + len))), .val (.ref d), .val (.int (Int32.ofNat (q + len))), .val (.int (Int32.ofNat len)), .val (.int (Int32.ofNat len)), z9] [.int (Int32.ofNat len)])) := g9.trans (by
    refine XS.iload X9.here hexec rfl (hb hbytes d3) rfl ?_
    refine XS.iload X9.here hexec rfl (hb hbytes d5) rfl ?_
    refine XS.icmpYes X9.here hexec rfl (pc0 := 7) rfl (hb hbytes d7) rfl (ii_ge_t (nlt32 (by omega) (Nat.le_refl _))) (by decide) rfl ?_
    refine XS.iload X9.here hexec rfl (hb hbytes d44) rfl ?_
    exact Steps.refl _)
  exact ⟨T9, some (.int (Int32.ofNat len)), _, _, _, X9, by simp, rfl, rfl, (fun h => by cases h), ⟨rfl, B9, p9.from hh0, f9⟩, fun fs hl => c11.trans (X9.ireturnOut hexec hret rfl (Or.inl rfl) (hb hbytes d46) hl)⟩
end Cmp5
namespace Cmp3
def yN : MethodName := ⟨"java/lang/StringUTF16", "compress", "([CII)[B"⟩
abbrev yB : ByteArray := jdk_52_method_16_code
theorem d0 : decode yB 0 = .ok (.iload_n 2, 1) := by decide +kernel
theorem d1 : decode yB 1 = .ok (.newarray .byte, 2) := by decide +kernel
theorem d3 : decode yB 3 = .ok (.astore_n 3, 1) := by decide +kernel
theorem d4 : decode yB 4 = .ok (.aload_n 0, 1) := by decide +kernel
theorem d5 : decode yB 5 = .ok (.iload_n 1, 1) := by decide +kernel
theorem d6 : decode yB 6 = .ok (.aload_n 3, 1) := by decide +kernel
theorem d7 : decode yB 7 = .ok (.iconst 0, 1) := by decide +kernel
theorem d8 : decode yB 8 = .ok (.iload_n 2, 1) := by decide +kernel
theorem d9 : decode yB 9 = .ok (.invokestatic 115, 3) := by decide +kernel
theorem d12 : decode yB 12 = .ok (.istore 4, 2) := by decide +kernel
theorem d14 : decode yB 14 = .ok (.iload 4, 2) := by decide +kernel
theorem d16 : decode yB 16 = .ok (.iload_n 2, 1) := by decide +kernel
theorem d17 : decode yB 17 = .ok (.if_icmp (.eq) 40, 3) := by decide +kernel
theorem d57 : decode yB 57 = .ok (.aload_n 3, 1) := by decide +kernel
theorem d58 : decode yB 58 = .ok (.areturn, 1) := by decide +kernel
def site : List Cond := [.arrayClass .byte, Cmp5.tab] ++ staticW U16 115 Cmp5.yN
def tab : Cond := tabOf yN yB 6 (some (.array .byte)) site
def P (b : Addr) (A : Cell) (o len : Nat) (args : Array Value) (s : State) : Prop := args = #[.ref b, .int (Int32.ofNat o), .int (Int32.ofNat len)] ∧ Ch b A s ∧ o + len ≤ A.slots.size ∧ len ≤ 536870912 ∧ ∀ i, i < len → ¬ 255 < cv A (o + i)
def E (b : Addr) (A : Cell) (o len : Nat) (r : Option Value) (s u : State) : Prop := NewArr .byte "[B" len (fun j => .int (lo8 (cv A (o + j)))) r s u ∧ u.heap.size = s.heap.size + 1
/-- no char of the range above 255: a new byte[] of their low bytes -/
theorem law (l : Launch) (b : Addr) (A : Cell) (o len : Nat) : Law l yN 3 3 1 18 yB 6 (some (.array .byte)) site (P b A o len) (E b A o len) [] 1 len := by
  refine Law.of_walk (plainFor_of_name (by decide +kernel)) (by decide +kernel) (by decide +kernel) (by decide) (fun _ _ h => by rw [h.1]; rfl) (fun _ U U' hal hh h => ⟨h.1, h.2.1.mv hal hh, h.2.2⟩) (fun r U U' V V' h1 hal h2 h => ⟨NewArr.mv r U U' V V' h1 hal h2 h.1, by rw [h1, h2]; exact h.2⟩) ?_
  intro p e s m args below meth c s₁ X0 hexec hbytes hml hret hlk hnm hown hh0 W hP
  obtain ⟨rfl, hA, l1, l2, hp⟩ := hP
  have a31 := hA.1.2.2.2
  have c1 : Steps p.tables e below (s₁.setTop (entryFrame m #[.ref b, .int (Int32.ofNat o), .int (Int32.ofNat len)] 6)) (s₁.setTop (mkF m 0 #[.val (.ref b), .val (.int (Int32.ofNat o)), .val (.int (Int32.ofNat len)), .unset, .unset, .unset] [])) := entry rfl
  have c2 : Steps p.tables e below (s₁.setTop (entryFrame m #[.ref b, .int (Int32.ofNat o), .int (Int32.ofNat len)] 6)) (s₁.setTop (mkF m 1 #[.val (.ref b), .val (.int (Int32.ofNat o)), .val (.int (Int32.ofNat len)), .unset, .unset, .unset] [.int (Int32.ofNat len)])) := c1.trans (by
    refine XS.iloadN X0.here hexec rfl (hb hbytes d0) rfl ?_
    exact Steps.refl _)
  obtain ⟨T3, B3, X3, ba3, bs3, bv3, bh3, bf3, st3⟩ := X0.anew hexec (atype := .byte) (wk W (.arrayClass .byte)) rfl (by show len * 1 ≤ _; omega) (by omega) (g := (mkF m 1 #[.val (.ref b), .val (.int (Int32.ofNat o)), .val (.int (Int32.ofNat len)), .unset, .unset, .unset] [.int (Int32.ofNat len)])) rfl (hb hbytes d1) (rest := []) rfl (Nat.le_refl _) (by show 0 + len ≤ len; omega)
  rw [hh0] at ba3 st3
  have kp3 : XT.Kept s T3 := (XT.Kept.of_eq hh0).push bh3
  have hA3 := hA.keep X3.warmed.alike (kp3 _ _ hA.1.1)
  have hne : b ≠ s.heap.size := hA.1.ne
  have c4 : Steps p.tables e below (s₁.setTop (entryFrame m #[.ref b, .int (Int32.ofNat o), .int (Int32.ofNat len)] 6)) (T3.setTop (mkF m 3 #[.val (.ref b), .val (.int (Int32.ofNat o)), .val (.int (Int32.ofNat len)), .unset, .unset, .unset] [.ref s.heap.size])) := c2.trans (st3 _ (Steps.refl _))
  have c5 : Steps p.tables e below (s₁.setTop (entryFrame m #[.ref b, .int (Int32.ofNat o), .int (Int32.ofNat len)] 6)) (T3.setTop (mkF m 9 #[.val (.ref b), .val (.int (Int32.ofNat o)), .val (.int (Int32.ofNat len)), .val (.ref s.heap.size), .unset, .unset] [.int (Int32.ofNat len), .int 0, .ref s.heap.size, .int (Int32.ofNat o), .ref b])) := c4.trans (by
    refine XS.astoreN X3.here hexec rfl (hb hbytes d3) rfl rfl rfl ?_
    refine XS.aloadN X3.here hexec rfl (hb hbytes d4) rfl rfl ?_
    refine XS.iloadN X3.here hexec rfl (hb hbytes d5) rfl ?_
    refine XS.aloadN X3.here hexec rfl (hb hbytes d6) rfl rfl ?_
    refine iconstV X3.here hexec rfl 0 (hb hbytes d7) (by decide) ?_
    refine XS.iloadN X3.here hexec rfl (hb hbytes d8) rfl ?_
    exact Steps.refl _)
  obtain ⟨v6, T6, X6, E6, g6⟩ := X3.callS hexec (Cmp5.law l b A s.heap.size B3 o 0 len) hown (wks W (staticW U16 115 Cmp5.yN)) (wk W Cmp5.tab) (W := 0) (Nat.le_of_ble_eq_true rfl) (Nat.le_of_ble_eq_true rfl) (Nat.le_refl _) (by show 0 + len + 0 ≤ len; omega) (g := (mkF m 9 #[.val (.ref b), .val (.int (Int32.ofNat o)), .val (.int (Int32.ofNat len)), .val (.ref s.heap.size), .unset, .unset] [.int (Int32.ofNat len), .int (Int32.ofNat 0), .ref s.heap.size, .int (Int32.ofNat o), .ref b])) rfl (by rw [hml]; rfl) c5 (argsL := [.ref b, .int (Int32.ofNat o), .ref s.heap.size, .int (Int32.ofNat 0), .int (Int32.ofNat len)]) (rest := []) rfl rfl (by show 2 * 0 + 0 ≤ _; decide) (hb hbytes d9) (⟨rfl, hA3, ba3, hne, l1, by rw [bs3]; simp, hp⟩)
  obtain ⟨rfl, B6, p6, f6⟩ := E6
  have c7 : Steps p.tables e below (s₁.setTop (entryFrame m #[.ref b, .int (Int32.ofNat o), .int (Int32.ofNat len)] 6)) (T6.setTop (mkF m 12 #[.val (.ref b), .val (.int (Int32.ofNat o)), .val (.int (Int32.ofNat len)), .val (.ref s.heap.size), .unset, .unset] [.int (Int32.ofNat len)])) := g6
  have c8 : Steps p.tables e below (s₁.setTop (entryFrame m #[.ref b, .int (Int32.ofNat o), .int (Int32.ofNat len)] 6)) (T6.setTop (mkF m 58 #[.val (.ref b), .val (.int (Int32.ofNat o)), .val (.int (Int32.ofNat len)), .val (.ref s.heap.size), .val (.int (Int32.ofNat len)), .unset] [.ref s.heap.size])) := c7.trans (by
    refine XS.istore X6.here hexec rfl (hb hbytes d12) rfl rfl ?_
    refine XS.iload X6.here hexec rfl (hb hbytes d14) rfl ?_
    refine XS.iloadN X6.here hexec rfl (hb hbytes d16) rfl ?_
    refine XS.icmpYes X6.here hexec rfl (pc0 := 17) rfl (hb hbytes d17) rfl (ii_eq_t rfl) (by decide) rfl ?_
    refine XS.aloadN X6.here hexec rfl (hb hbytes d57) rfl rfl ?_
    exact Steps.refl _)
  have X8 := X6.wide (L' := []) (cells' := 1) (slots' := len) (fun x hx hlt => by
    simp only [List.nil_append, copyLocs, List.mem_map, List.mem_range] at hx
    obtain ⟨i, -, rfl⟩ := hx
    exact absurd hlt (Nat.lt_irrefl _)) (Nat.le_refl _) (by omega)
  exact ⟨T6, some (.ref s.heap.size), _, _, _, X8, rfl, rfl, rfl, (fun h => by cases h), ⟨⟨rfl, B6, ba3.like (X3.warmed.alike.symm.trans X6.warmed.alike) p6.1 f6.1 f6.2.1 f6.2.2.1, f6.2.1.trans bv3, by rw [X6.warmed.alike.findClass, f6.1]; exact bf3, by rw [f6.2.2.1, bs3]; simp, fun j hj => by rw [f6.2.2.2 j, if_pos (by omega)]; rfl, kp3.put p6 (Nat.le_refl _)⟩, by rw [p6.2.2, bh3, hh0]; simp⟩, fun fs hl => c8.trans (X8.areturnOut hexec rfl hret rfl (hb hbytes d58) hl)⟩
end Cmp3
namespace CodL
def yN : MethodName := ⟨"java/lang/StringUTF16", "coderFromArrayLen", "([BI)B"⟩
abbrev yB : ByteArray := jdk_52_method_15_code
theorem d0 : decode yB 0 = .ok (.iload_n 1, 1) := by decide +kernel
theorem d1 : decode yB 1 = .ok (.aload_n 0, 1) := by decide +kernel
theorem d2 : decode yB 2 = .ok (.arraylength, 1) := by decide +kernel
theorem d3 : decode yB 3 = .ok (.isub, 1) := by decide +kernel
theorem d4 : decode yB 4 = .ok (.bipush 31, 2) := by decide +kernel
theorem d6 : decode yB 6 = .ok (.iushr, 1) := by decide +kernel
theorem d7 : decode yB 7 = .ok (.i2b, 1) := by decide +kernel
theorem d8 : decode yB 8 = .ok (.ireturn, 1) := by decide +kernel
def site : List Cond := []
def tab : Cond := tabOf yN yB 2 (some .byte) site
def P (d : Addr) (B : Cell) (args : Array Value) (s : State) : Prop := args = #[.ref d, .int (Int32.ofNat B.slots.size)] ∧ Arr .byte d B s
def E (r : Option Value) (s u : State) : Prop := XT.PureE (some (.int 0)) r s u
/-- an array as long as the number of chars: LATIN1 -/
theorem law (l : Launch) (d : Addr) (B : Cell) : Law l yN 2 2 0 0 yB 2 (some .byte) site (P d B) E [] 0 0 := by
  refine Law.of_walk (plainFor_of_name (by decide +kernel)) (by decide +kernel) (by decide +kernel) (by decide) (fun _ _ h => by rw [h.1]; rfl) (fun _ U U' hal hh h => ⟨h.1, h.2.mv hal hh⟩) (fun r U U' V V' h1 hal h2 h => XT.PureE.mv r U U' V V' h1 hal h2 h) ?_
  intro p e s m args below meth c s₁ X0 hexec hbytes hml hret hlk hnm hown hh0 W hP
  obtain ⟨rfl, hB⟩ := hP
  have hB0 := hB.mv X0.warmed.alike hh0
  have c1 : Steps p.tables e below (s₁.setTop (entryFrame m #[.ref d, .int (Int32.ofNat B.slots.size)] 2)) (s₁.setTop (mkF m 0 #[.val (.ref d), .val (.int (Int32.ofNat B.slots.size))] [])) := entry rfl
  have c2 : Steps p.tables e below (s₁.setTop (entryFrame m #[.ref d, .int (Int32.ofNat B.slots.size)] 2)) (s₁.setTop (mkF m 2 #[.val (.ref d), .val (.int (Int32.ofNat B.slots.size))] [.ref d, .int (Int32.ofNat B.slots.size)])) := c1.trans (by
    refine XS.iloadN X0.here hexec rfl (hb hbytes d0) rfl ?_
    refine XS.aloadN X0.here hexec rfl (hb hbytes d1) rfl rfl ?_
    exact Steps.refl _)
  have c3 : Steps p.tables e below (s₁.setTop (entryFrame m #[.ref d, .int (Int32.ofNat B.slots.size)] 2)) (s₁.setTop (mkF m 8 #[.val (.ref d), .val (.int (Int32.ofNat B.slots.size))] [.int (lo8 (ushr (Int32.ofNat B.slots.size - Int32.ofNat B.slots.size) 31))])) := c2.trans (by
    refine X0.alen hexec hB0 rfl rfl (hb hbytes d2) ?_
    refine XS.isub X0.here hexec rfl (hb hbytes d3) rfl ?_
    refine bipushV X0.here hexec rfl 31 (hb hbytes d4) (by decide) ?_
    refine iushr X0.here hexec rfl (hb hbytes d6) rfl ?_
    refine i2b X0.here hexec rfl (hb hbytes d7) rfl ?_
    exact Steps.refl _)
  have e0 : lo8 (ushr (Int32.ofNat B.slots.size - Int32.ofNat B.slots.size) 31) = 0 := by rw [Int32.sub_self]; decide
  rw [e0] at c3
  exact ⟨s₁, some (.int 0), _, _, _, X0, rfl, rfl, rfl, (fun h => by cases h), ⟨rfl, hh0⟩, fun fs hl => c3.trans (X0.ireturnOut hexec hret rfl (Or.inr (Or.inr (Or.inl rfl))) (hb hbytes d8) hl)⟩
end CodL
/-- the String at a is Latin-1 over a new byte[] (the heap's one new cell): the low bytes of the len chars of A from o on; every cell but a is kept -/
def Got (a : Addr) (D : Cell) (fV fC : Field) (A : Cell) (o len : Nat) (r : Option Value) (s u : State) : Prop := r = none ∧ ∃ D' V : Cell, Blank "java/lang/String" a D' u ∧ Same D D' [fV.slot, fC.slot] ∧ D'.slots[fV.slot]? = some (.ref s.heap.size) ∧ D'.slots[fC.slot]? = some (.int 0) ∧ Arr .byte s.heap.size V u ∧ V.vm = .none ∧ u.vm.findClass "[B" = some V.cls ∧ V.slots.size = len ∧ (∀ j, j < len → V.slots[j]? = some (.int (lo8 (cv A (o + j))))) ∧ (∀ (y : Addr) (c : Cell), y ≠ a → s.heap[y]? = some c → u.heap[y]? = some c) ∧ u.heap.size = s.heap.size + 1
theorem Got.mv {a : Addr} {D A : Cell} {fV fC : Field} {o len : Nat} : ∀ r (U U' V V' : State), U'.heap = U.heap → V.vm.Alike V'.vm → V'.heap = V.heap → Got a D fV fC A o len r U V → Got a D fV fC A o len r U' V' :=
  fun r U U' V V' h1 hal h2 ⟨e0, D', X, a1, a2, a3, a4, a5, a6, a7, a8, a9, a10, a11⟩ => ⟨e0, D', X, a1.mv hal h2, a2, by rw [h1]; exact a3, a4, by rw [h1]; exact a5.mv hal h2, a6, by rw [hal.findClass]; exact a7, a8, a9, by rw [h1, h2]; exact a10, by rw [h1, h2]; exact a11⟩
namespace New4
def yN : MethodName := ⟨"java/lang/String", "<init>", "([CIILjava/lang/Void;)V"⟩
abbrev yB : ByteArray := jdk_42_method_149_code
theorem d0 : decode yB 0 = .ok (.aload_n 0, 1) := by decide +kernel
theorem d1 : decode yB 1 = .ok (.invokespecial 1, 3) := by decide +kernel
theorem d4 : decode yB 4 = .ok (.iload_n 3, 1) := by decide +kernel
theorem d5 : decode yB 5 = .ok (.ifCond (.ne) 22, 3) := by decide +kernel
theorem d27 : decode yB 27 = .ok (.getstatic 38, 3) := by decide +kernel
theorem d30 : decode yB 30 = .ok (.ifCond (.eq) 28, 3) := by decide +kernel
theorem d33 : decode yB 33 = .ok (.aload_n 1, 1) := by decide +kernel
theorem d34 : decode yB 34 = .ok (.iload_n 2, 1) := by decide +kernel
theorem d35 : decode yB 35 = .ok (.iload_n 3, 1) := by decide +kernel
theorem d36 : decode yB 36 = .ok (.invokestatic 177, 3) := by decide +kernel
theorem d39 : decode yB 39 = .ok (.astore 5, 2) := by decide +kernel
theorem d41 : decode yB 41 = .ok (.aload_n 0, 1) := by decide +kernel
theorem d42 : decode yB 42 = .ok (.aload 5, 2) := by decide +kernel
theorem d44 : decode yB 44 = .ok (.iload_n 3, 1) := by decide +kernel
theorem d45 : decode yB 45 = .ok (.invokestatic 47, 3) := by decide +kernel
theorem d48 : decode yB 48 = .ok (.putfield 15, 3) := by decide +kernel
theorem d51 : decode yB 51 = .ok (.aload_n 0, 1) := by decide +kernel
theorem d52 : decode yB 52 = .ok (.aload 5, 2) := by decide +kernel
theorem d54 : decode yB 54 = .ok (.putfield 9, 3) := by decide +kernel
theorem d57 : decode yB 57 = .ok (.return_, 1) := by decide +kernel
def site : List Cond := [.fieldLink "java/lang/String" 38 "java/lang/String" "COMPACT_STRINGS" "Z", Cmp3.tab, CodL.tab, .laysFinal "java/lang/String" "java/lang/String" "value" "[B", .fieldLink "java/lang/String" 9 "java/lang/String" "value" "[B", .laysFinal "java/lang/String" "java/lang/String" "coder" "B", .fieldLink "java/lang/String" 15 "java/lang/String" "coder" "B"] ++ objW "java/lang/String" 1 ++ staticW "java/lang/String" 177 Cmp3.yN ++ staticW "java/lang/String" 47 CodL.yN
def tab : Cond := tabOf yN yB 6 none site
def P (a : Addr) (D : Cell) (fV fC : Field) (b : Addr) (A : Cell) (z : Int32) (o len : Nat) (args : Array Value) (s : State) : Prop := args = #[.ref a, .ref b, .int (Int32.ofNat o), .int (Int32.ofNat len), .null] ∧ Blank "java/lang/String" a D s ∧ Found "java/lang/String" "value" "[B" fV s ∧ Found "java/lang/String" "coder" "B" fC s ∧ Ch b A s ∧ StaticIs s "java/lang/String" "COMPACT_STRINGS" "Z" (.int z) ∧ ¬ z = 0 ∧ 0 < len ∧ o + len ≤ A.slots.size ∧ len ≤ 536870912 ∧ ∀ i, i < len → ¬ 255 < cv A (o + i)
def E (a : Addr) (D : Cell) (fV fC : Field) (A : Cell) (o len : Nat) (r : Option Value) (s u : State) : Prop := Got a D fV fC A o len r s u
/-- len > 0, no char of the range above 255: a Latin-1 String of their low bytes -/
theorem law (l : Launch) (a : Addr) (D : Cell) (fV fC : Field) (b : Addr) (A : Cell) (z : Int32) (o len : Nat) : Law l yN 5 4 2 35 yB 6 none site (P a D fV fC b A z o len) (E a D fV fC A o len) [⟨a, fC.slot⟩, ⟨a, fV.slot⟩] 1 len := by
  refine Law.of_walk (plainFor_of_name (by decide +kernel)) (by decide +kernel) (by decide +kernel) (by decide) (fun _ _ h => by rw [h.1]; rfl) (fun _ U U' hal hh h => ⟨h.1, h.2.1.mv hal hh, h.2.2.1.al hal, h.2.2.2.1.al hal, h.2.2.2.2.1.mv hal hh, h.2.2.2.2.2.1.there hal hh, h.2.2.2.2.2.2⟩) (fun r U U' V V' h1 hal h2 h => Got.mv r U U' V V' h1 hal h2 h) ?_
  intro p e s m args below meth c s₁ X0 hexec hbytes hml hret hlk hnm hown hh0 W hP
  obtain ⟨rfl, hB, f1, f2, hA, s1, hz, l0, l1, l2, hp⟩ := hP
  have a31 := hA.1.2.2.2
  have c1 : Steps p.tables e below (s₁.setTop (entryFrame m #[.ref a, .ref b, .int (Int32.ofNat o), .int (Int32.ofNat len), .null] 6)) (s₁.setTop (mkF m 0 #[.val (.ref a), .val (.ref b), .val (.int (Int32.ofNat o)), .val (.int (Int32.ofNat len)), .val .null, .unset] [])) := entry rfl
  have c2 : Steps p.tables e below (s₁.setTop (entryFrame m #[.ref a, .ref b, .int (Int32.ofNat o), .int (Int32.ofNat len), .null] 6)) (s₁.setTop (mkF m 1 #[.val (.ref a), .val (.ref b), .val (.int (Int32.ofNat o)), .val (.int (Int32.ofNat len)), .val .null, .unset] [.ref a])) := c1.trans (by
    refine XS.aloadN X0.here hexec rfl (hb hbytes d0) rfl rfl ?_
    exact Steps.refl _)
  obtain ⟨T3, X3, q3, st3⟩ := X0.oinit hexec hown (wks W (objW "java/lang/String" 1)) (g := (mkF m 1 #[.val (.ref a), .val (.ref b), .val (.int (Int32.ofNat o)), .val (.int (Int32.ofNat len)), .val .null, .unset] [.ref a])) rfl (by rw [hml]; rfl) (rest := []) rfl (hb hbytes d1) (W := 0) (by show 2 * 0 + 0 ≤ _; decide) (Nat.le_of_ble_eq_true rfl) (Nat.le_of_ble_eq_true rfl)
  have hh3 := q3.trans hh0
  have c4 : Steps p.tables e below (s₁.setTop (entryFrame m #[.ref a, .ref b, .int (Int32.ofNat o), .int (Int32.ofNat len), .null] 6)) (T3.setTop (mkF m 27 #[.val (.ref a), .val (.ref b), .val (.int (Int32.ofNat o)), .val (.int (Int32.ofNat len)), .val .null, .unset] [])) := (c2.trans (st3 _ (Steps.refl _))).trans (by
    refine XS.iloadN X3.here hexec rfl (hb hbytes d4) rfl ?_
    refine XS.ifYes X3.here hexec rfl (pc0 := 5) rfl (hb hbytes d5) rfl (i0_ne_t (nz32 (by omega) l0)) (by decide) rfl ?_
    exact Steps.refl _)
  obtain ⟨T5, X5, q5, st5⟩ := X3.sget hexec hown (wk W (.fieldLink "java/lang/String" 38 "java/lang/String" "COMPACT_STRINGS" "Z")) s1 (fun _ _ h => by rw [hh3]; exact h) (g := (mkF m 27 #[.val (.ref a), .val (.ref b), .val (.int (Int32.ofNat o)), .val (.int (Int32.ofNat len)), .val .null, .unset] [])) rfl (hb hbytes d27)
  have hh5 := q5.trans hh3
  have c6 : Steps p.tables e below (s₁.setTop (entryFrame m #[.ref a, .ref b, .int (Int32.ofNat o), .int (Int32.ofNat len), .null] 6)) (T5.setTop (mkF m 30 #[.val (.ref a), .val (.ref b), .val (.int (Int32.ofNat o)), .val (.int (Int32.ofNat len)), .val .null, .unset] [.int z])) := c4.trans (st5 _ (Steps.refl _))
  have c7 : Steps p.tables e below (s₁.setTop (entryFrame m #[.ref a, .ref b, .int (Int32.ofNat o), .int (Int32.ofNat len), .null] 6)) (T5.setTop (mkF m 36 #[.val (.ref a), .val (.ref b), .val (.int (Int32.ofNat o)), .val (.int (Int32.ofNat len)), .val .null, .unset] [.int (Int32.ofNat len), .int (Int32.ofNat o), .ref b])) := c6.trans (by
    refine XS.ifNo X5.here hexec rfl (hb hbytes d30) rfl (i0_eq_f hz) ?_
    refine XS.aloadN X5.here hexec rfl (hb hbytes d33) rfl rfl ?_
    refine XS.iloadN X5.here hexec rfl (hb hbytes d34) rfl ?_
    refine XS.iloadN X5.here hexec rfl (hb hbytes d35) rfl ?_
    exact Steps.refl _)
  obtain ⟨v8, T8, X8, E8, g8⟩ := X5.callS hexec (Cmp3.law l b A o len) hown (wks W (staticW "java/lang/String" 177 Cmp3.yN)) (wk W Cmp3.tab) (W := 0) (Nat.le_of_ble_eq_true rfl) (Nat.le_of_ble_eq_true rfl) (Nat.le_refl _) (by show 0 + len ≤ len; omega) (g := (mkF m 36 #[.val (.ref a), .val (.ref b), .val (.int (Int32.ofNat o)), .val (.int (Int32.ofNat len)), .val .null, .unset] [.int (Int32.ofNat len), .int (Int32.ofNat o), .ref b])) rfl (by rw [hml]; rfl) c7 (argsL := [.ref b, .int (Int32.ofNat o), .int (Int32.ofNat len)]) (rest := []) rfl rfl (by show 2 * 0 + 0 ≤ _; decide) (hb hbytes d36) (⟨rfl, hA.mv X5.warmed.alike hh5, l1, l2, hp⟩)
  obtain ⟨e8, z8⟩ := E8
  obtain ⟨rfl, N, n1, n2, n3, n4, n5, n6⟩ := NewArr.mv _ T5 s _ _ hh5.symm (Vm.Alike.refl _) rfl e8
  rw [hh5] at z8
  have hB1 := hB.keep X8.warmed.alike (n6 _ _ hB.1)
  have hne : s.heap.size ≠ a := (Nat.ne_of_lt (Array.getElem?_eq_some_iff.mp hB.1).1).symm
  have c9 : Steps p.tables e below (s₁.setTop (entryFrame m #[.ref a, .ref b, .int (Int32.ofNat o), .int (Int32.ofNat len), .null] 6)) (T8.setTop (mkF m 39 #[.val (.ref a), .val (.ref b), .val (.int (Int32.ofNat o)), .val (.int (Int32.ofNat len)), .val .null, .unset] [.ref s.heap.size])) := g8
  have c10 : Steps p.tables e below (s₁.setTop (entryFrame m #[.ref a, .ref b, .int (Int32.ofNat o), .int (Int32.ofNat len), .null] 6)) (T8.setTop (mkF m 45 #[.val (.ref a), .val (.ref b), .val (.int (Int32.ofNat o)), .val (.int (Int32.ofNat len)), .val .null, .val (.ref s.heap.size)] [.int (Int32.ofNat N.slots.size), .ref s.heap.size, .ref a])) := by
    have hc : Steps p.tables e below (s₁.setTop (entryFrame m #[.ref a, .ref b, .int (Int32.ofNat o), .int (Int32.ofNat len), .null] 6)) (T8.setTop (mkF m 45 #[.val (.ref a), .val (.ref b), .val (.int (Int32.ofNat o)), .val (.int (Int32.ofNat len)), .val .null, .val (.ref s.heap.size)] [.int (Int32.ofNat len), .ref s.heap.size, .ref a])) := c9.trans (by
      refine XS.astore X8.here hexec rfl (hb hbytes d39) rfl rfl rfl ?_
      refine XS.aloadN X8.here hexec rfl (hb hbytes d41) rfl rfl ?_
      refine XS.aload X8.here hexec rfl (hb hbytes d42) rfl rfl ?_
      refine XS.iloadN X8.here hexec rfl (hb hbytes d44) rfl ?_
      exact Steps.refl _)
    rw [n4]; exact hc
  obtain ⟨v11, T11, X11, E11, g11⟩ := X8.callS hexec (CodL.law l s.heap.size N) hown (wks W (staticW "java/lang/String" 47 CodL.yN)) (wk W CodL.tab) (W := 1) (Nat.le_of_ble_eq_true rfl) (Nat.le_of_ble_eq_true rfl) (Nat.le_refl _) (by show 0 + len + 0 ≤ len; omega) (g := (mkF m 45 #[.val (.ref a), .val (.ref b), .val (.int (Int32.ofNat o)), .val (.int (Int32.ofNat len)), .val .null, .val (.ref s.heap.size)] [.int (Int32.ofNat N.slots.size), .ref s.heap.size, .ref a])) rfl (by rw [hml]; rfl) c10 (argsL := [.ref s.heap.size, .int (Int32.ofNat N.slots.size)]) (rest := [.ref a]) rfl rfl (by show 2 * 0 + (1 + 0) ≤ _; decide) (hb hbytes d45) (⟨rfl, n1⟩)
  obtain ⟨rfl, q11⟩ := E11
  have hB11 := hB1.mv (X8.warmed.alike.symm.trans X11.warmed.alike) q11
  have c12 : Steps p.tables e below (s₁.setTop (entryFrame m #[.ref a, .ref b, .int (Int32.ofNat o), .int (Int32.ofNat len), .null] 6)) (T11.setTop (mkF m 48 #[.val (.ref a), .val (.ref b), .val (.int (Int32.ofNat o)), .val (.int (Int32.ofNat len)), .val .null, .val (.ref s.heap.size)] [.int 0, .ref a])) := g11
  obtain ⟨T13, X13, p13, bl13, sl13, st13⟩ := X11.finit hexec hown (wk W (.fieldLink "java/lang/String" 15 "java/lang/String" "coder" "B")) (Or.inr ⟨_, (wk W (.laysFinal "java/lang/String" "java/lang/String" "coder" "B"))⟩) (Or.inl ⟨rfl, hnm⟩) f2 (Or.inl rfl) hB11 (t := .byte) (by decide +kernel) rfl (g := (mkF m 48 #[.val (.ref a), .val (.ref b), .val (.int (Int32.ofNat o)), .val (.int (Int32.ofNat len)), .val .null, .val (.ref s.heap.size)] [.int 0, .ref a])) rfl (rest := []) rfl (hb hbytes d48)
  have c14 : Steps p.tables e below (s₁.setTop (entryFrame m #[.ref a, .ref b, .int (Int32.ofNat o), .int (Int32.ofNat len), .null] 6)) (T13.setTop (mkF m 54 #[.val (.ref a), .val (.ref b), .val (.int (Int32.ofNat o)), .val (.int (Int32.ofNat len)), .val .null, .val (.ref s.heap.size)] [.ref s.heap.size, .ref a])) := (c12.trans (st13 _ (Steps.refl _))).trans (by
    refine XS.aloadN X13.here hexec rfl (hb hbytes d51) rfl rfl ?_
    refine XS.aload X13.here hexec rfl (hb hbytes d52) rfl rfl ?_
    exact Steps.refl _)
  obtain ⟨T15, X15, p15, bl15, sl15, st15⟩ := X13.finit hexec hown (wk W (.fieldLink "java/lang/String" 9 "java/lang/String" "value" "[B")) (Or.inr ⟨_, (wk W (.laysFinal "java/lang/String" "java/lang/String" "value" "[B"))⟩) (Or.inl ⟨rfl, hnm⟩) f1 (Or.inl rfl) bl13 (t := (.array .byte)) (by decide +kernel) rfl (g := (mkF m 54 #[.val (.ref a), .val (.ref b), .val (.int (Int32.ofNat o)), .val (.int (Int32.ofNat len)), .val .null, .val (.ref s.heap.size)] [.ref s.heap.size, .ref a])) rfl (rest := []) rfl (hb hbytes d54)
  have c16 : Steps p.tables e below (s₁.setTop (entryFrame m #[.ref a, .ref b, .int (Int32.ofNat o), .int (Int32.ofNat len), .null] 6)) (T15.setTop (mkF m 57 #[.val (.ref a), .val (.ref b), .val (.int (Int32.ofNat o)), .val (.int (Int32.ofNat len)), .val .null, .val (.ref s.heap.size)] [])) := c14.trans (st15 _ (Steps.refl _))
  have ap := apart (Or.inr ⟨_, (wk W (.laysFinal "java/lang/String" "java/lang/String" "value" "[B"))⟩) (Or.inr ⟨_, (wk W (.laysFinal "java/lang/String" "java/lang/String" "coder" "B"))⟩) f1 f2 (t₁ := .array .byte) (t₂ := .byte) (by decide +kernel) (by decide +kernel) (by decide)
  have al := X8.warmed.alike.symm.trans X15.warmed.alike
  have n7 : T11.heap[s.heap.size]? = some N := by rw [q11]; exact n1.1
  exact ⟨T15, none, _, _, _, X15, by simp, rfl, by omega, (fun _ => rfl), ⟨rfl, _, N, bl15, ((Same.refl D _).set _ (by simp)).set _ (by simp), sl15, (Cell.slots_setSlot_ne _ ap).trans sl13, n1.keep al (p15.other hne (p13.other hne n7)), n2, by rw [al.findClass]; exact n3, n4, n5, fun y c h1 h2 => p15.other h1 (p13.other h1 (by rw [q11]; exact n6 y c h2)), by rw [p15.2.2, p13.2.2, q11]; exact z8⟩, fun fs hl => c16.trans (X15.returnOut hexec hret (hb hbytes d57) hl)⟩
end New4
namespace New1
def yN : MethodName := ⟨"java/lang/String", "<init>", "([C)V"⟩
abbrev yB : ByteArray := jdk_42_method_3_code
theorem d0 : decode yB 0 = .ok (.aload_n 0, 1) := by decide +kernel
theorem d1 : decode yB 1 = .ok (.aload_n 1, 1) := by decide +kernel
theorem d2 : decode yB 2 = .ok (.iconst 0, 1) := by decide +kernel
theorem d3 : decode yB 3 = .ok (.aload_n 1, 1) := by decide +kernel
theorem d4 : decode yB 4 = .ok (.arraylength, 1) := by decide +kernel
theorem d5 : decode yB 5 = .ok (.aconst_null, 1) := by decide +kernel
theorem d6 : decode yB 6 = .ok (.invokespecial 27, 3) := by decide +kernel
theorem d9 : decode yB 9 = .ok (.return_, 1) := by decide +kernel
def site : List Cond := [New4.tab] ++ initW "java/lang/String" 27 New4.yN
def tab : Cond := tabOf yN yB 2 none site
def P (a : Addr) (D : Cell) (fV fC : Field) (b : Addr) (A : Cell) (z : Int32) (args : Array Value) (s : State) : Prop := args = #[.ref a, .ref b] ∧ Blank "java/lang/String" a D s ∧ Found "java/lang/String" "value" "[B" fV s ∧ Found "java/lang/String" "coder" "B" fC s ∧ Ch b A s ∧ StaticIs s "java/lang/String" "COMPACT_STRINGS" "Z" (.int z) ∧ ¬ z = 0 ∧ 0 < A.slots.size ∧ A.slots.size ≤ 536870912 ∧ ∀ i, i < A.slots.size → ¬ 255 < cv A i
def E (a : Addr) (D : Cell) (fV fC : Field) (A : Cell) (r : Option Value) (s u : State) : Prop := Got a D fV fC A 0 A.slots.size r s u
/-- new String(chars), not empty, no char above 255: a Latin-1 String of their low bytes -/
theorem law (l : Launch) (a : Addr) (D : Cell) (fV fC : Field) (b : Addr) (A : Cell) (z : Int32) : Law l yN 2 1 3 52 yB 2 none site (P a D fV fC b A z) (E a D fV fC A) [⟨a, fC.slot⟩, ⟨a, fV.slot⟩] 1 A.slots.size := by
  refine Law.of_walk (plainFor_of_name (by decide +kernel)) (by decide +kernel) (by decide +kernel) (by decide) (fun _ _ h => by rw [h.1]; rfl) (fun _ U U' hal hh h => ⟨h.1, h.2.1.mv hal hh, h.2.2.1.al hal, h.2.2.2.1.al hal, h.2.2.2.2.1.mv hal hh, h.2.2.2.2.2.1.there hal hh, h.2.2.2.2.2.2⟩) (fun r U U' V V' h1 hal h2 h => Got.mv r U U' V V' h1 hal h2 h) ?_
  intro p e s m args below meth c s₁ X0 hexec hbytes hml hret hlk hnm hown hh0 W hP
  obtain ⟨rfl, hB, f1, f2, hA, s1, hz, l0, l2, hp⟩ := hP
  have c1 : Steps p.tables e below (s₁.setTop (entryFrame m #[.ref a, .ref b] 2)) (s₁.setTop (mkF m 0 #[.val (.ref a), .val (.ref b)] [])) := entry rfl
  have c2 : Steps p.tables e below (s₁.setTop (entryFrame m #[.ref a, .ref b] 2)) (s₁.setTop (mkF m 6 #[.val (.ref a), .val (.ref b)] [.null, .int (Int32.ofNat A.slots.size), .int 0, .ref b, .ref a])) := c1.trans (by
    refine XS.aloadN X0.here hexec rfl (hb hbytes d0) rfl rfl ?_
    refine XS.aloadN X0.here hexec rfl (hb hbytes d1) rfl rfl ?_
    refine iconstV X0.here hexec rfl 0 (hb hbytes d2) (by decide) ?_
    refine XS.aloadN X0.here hexec rfl (hb hbytes d3) rfl rfl ?_
    refine X0.alen hexec (hA.1.mv X0.warmed.alike hh0) rfl rfl (hb hbytes d4) ?_
    refine XS.aconstNull X0.here hexec rfl (hb hbytes d5) ?_
    exact Steps.refl _)
  obtain ⟨v3, T3, X3, E3, g3⟩ := X0.callN hexec (New4.law l a D fV fC b A z 0 A.slots.size) rfl hown (wks W (initW "java/lang/String" 27 New4.yN)) (W New4.tab (by simp only [site, List.mem_cons, List.mem_append, true_or, or_true])) (W := 0) (Nat.le_of_ble_eq_true rfl) (Nat.le_of_ble_eq_true rfl) (Nat.le_refl _) (by show 0 + A.slots.size ≤ A.slots.size; omega) (g := (mkF m 6 #[.val (.ref a), .val (.ref b)] [.null, .int (Int32.ofNat A.slots.size), .int (Int32.ofNat 0), .ref b, .ref a])) rfl (by rw [hml]; rfl) c2 (argsL := [.ref b, .int (Int32.ofNat 0), .int (Int32.ofNat A.slots.size), .null]) (rest := []) rfl rfl (by show 2 * 0 + 0 ≤ _; decide) (hb hbytes d6) (⟨rfl, hB.mv X0.warmed.alike hh0, f1.al X0.warmed.alike, f2.al X0.warmed.alike, hA.mv X0.warmed.alike hh0, s1.there X0.warmed.alike hh0, hz, l0, by omega, l2, fun i hi => by rw [Nat.zero_add]; exact hp i hi⟩)
  have e0 := Got.mv _ s₁ s _ _ hh0.symm (Vm.Alike.refl _) rfl E3
  obtain rfl := e0.1
  have c4 : Steps p.tables e below (s₁.setTop (entryFrame m #[.ref a, .ref b] 2)) (T3.setTop (mkF m 9 #[.val (.ref a), .val (.ref b)] [])) := g3
  exact ⟨T3, none, _, _, _, X3, by simp, rfl, by omega, (fun _ => rfl), e0, fun fs hl => c4.trans (X3.returnOut hexec hret (hb hbytes d9) hl)⟩
theorem pays {l : Launch} {R : Room} {p : Program} {e : Env} {below : List Frame} {s : State} {sargs : Array Value} {len W : Nat} (a : Addr) (D : Cell) (fV fC : Field) (b : Addr) (A : Cell) (z : Int32) (htab : tab.before sargs s = true) (hfr : 4 ≤ R.frames) (hlo : W + 65 ≤ R.locals) :
    Back l R p e below s sargs yN len W (fun A₁ a₁ => A₁.cells + 1 ≤ R.cells ∧ A₁.slots + A.slots.size ≤ R.slots ∧ P a D fV fC b A z a₁ A₁.U) (fun A₁ _ v₁ B₁ => E a D fV fC A v₁ A₁.U B₁.U ∧ B₁.locs = A₁.locs ++ [⟨a, fC.slot⟩, ⟨a, fV.slot⟩] ∧ B₁.cells = A₁.cells + 1 ∧ B₁.slots = A₁.slots + A.slots.size) :=
  (law l a D fV fC b A z).pays htab hfr (by omega)
end New1
end StrChars
namespace StrChars.Road
open Jvm Sem ClassFile Op Lib Jvm.Stand Jvm.Free Jvm.Free.XT
open Jvm.Lib.Cold (StaticIs)
abbrev ST : String := "java/lang/String"
/-- every table word that New1's law asks, flat -/
abbrev words : List Jvm.Cond := [.code New1.yN New1.yB 2 none, .initialized ST, .methodLink ST 27 New4.yN, .instanceMethod New4.yN,
  .code New4.yN New4.yB 6 none, .fieldLink ST 38 ST "COMPACT_STRINGS" "Z", .laysFinal ST ST "value" "[B", .fieldLink ST 9 ST "value" "[B", .laysFinal ST ST "coder" "B", .fieldLink ST 15 ST "coder" "B",
  .methodLink ST 1 Lib.objectInit, .instanceMethod Lib.objectInit, .code Lib.objectInit ⟨#[0xb1]⟩ 1 none, .methodLink ST 177 Cmp3.yN, .static Cmp3.yN, .methodLink ST 47 CodL.yN, .static CodL.yN,
  .code Cmp3.yN Cmp3.yB 6 (some (.array .byte)), .initialized U16, .arrayClass .byte, .methodLink U16 115 Cmp5.yN, .static Cmp5.yN, .code Cmp5.yN Cmp5.yB 7 (some .int), .code CodL.yN CodL.yB 2 (some .byte)]
theorem tab_of {a : Array Value} {s : State} (h : ∀ w ∈ words, w.before a s = true) : New1.tab.before a s = true := by
  have h5 : Cmp5.tab.before a s = true := unparts (wk h (.code Cmp5.yN Cmp5.yB 7 (some .int))) (wks h (.initialized Cmp5.yN.cls :: Cmp5.site))
  have hc : CodL.tab.before a s = true := unparts (wk h (.code CodL.yN CodL.yB 2 (some .byte))) (wks h (.initialized CodL.yN.cls :: CodL.site))
  have q5 : ∀ w ∈ Cmp5.tab :: words, w.before a s = true := fun w hw => (List.mem_cons.mp hw).elim (fun e => e ▸ h5) (h w)
  have h3 : Cmp3.tab.before a s = true := unparts (wk q5 (.code Cmp3.yN Cmp3.yB 6 (some (.array .byte)))) (wks q5 (.initialized Cmp3.yN.cls :: Cmp3.site))
  have q3 : ∀ w ∈ Cmp3.tab :: CodL.tab :: words, w.before a s = true := fun w hw => (List.mem_cons.mp hw).elim (fun e => e ▸ h3) fun hw => (List.mem_cons.mp hw).elim (fun e => e ▸ hc) (h w)
  have h4 : New4.tab.before a s = true := unparts (wk q3 (.code New4.yN New4.yB 6 none)) (wks q3 (.initialized New4.yN.cls :: New4.site))
  have q4 : ∀ w ∈ New4.tab :: words, w.before a s = true := fun w hw => (List.mem_cons.mp hw).elim (fun e => e ▸ h4) (h w)
  exact unparts (wk q4 (.code New1.yN New1.yB 2 none)) (wks q4 (.initialized New1.yN.cls :: New1.site))
/-- the words ride from the start Z to the walk's own state -/
theorem moved {Z s : State} {a0 args : Array Value} (hZ : Z.Warmed39 s.vm) (hw : ∀ d ∈ words, d.before a0 Z = true) : ∀ d ∈ words, d.before args s = true := fun d hd => by
  have q := hw d hd
  have t : ∀ d ∈ words, d = .arrayClass .byte ∨ (d.onTables && d.keepsFace) = true := by decide +kernel
  rcases t d hd with rfl | t
  · exact RoadKit.mvA hZ q
  · exact RoadKit.mv hZ q t
/-- WHAT COMES BACK, over the tables of the start Z: h the heap at the call, h' behind it -/
def Q (Z : State) (x : Addr) (A : Cell) (h : Heap) (v : Option Value) (h' : Heap) (L : List Loc) : Prop := v = none ∧ (∀ y ∈ L, y.base = x) ∧ RoadKit.Keep h h' [x] ∧ h'.size = h.size + 1 ∧ RoadKit.Exa Z h' x ST ∧ RoadKit.Fld Z h' x ST "value" "[B" (.ref h.size) ∧ RoadKit.Fld Z h' x ST "coder" "B" (.int 0) ∧
  (∃ V : Cell, RoadKit.Arr Z h' h.size V .byte ∧ V.vm = .none ∧ Z.vm.findClass "[B" = some V.cls ∧ V.slots.size = A.slots.size ∧ ∀ j, j < A.slots.size → V.slots[j]? = some (.int (lo8 (cv A j)))) ∧
  ∀ (O n d : String) (w : Value), RoadKit.Fld Z h x O n d w → RoadKit.slotOf Z O n d ≠ RoadKit.slotOf Z ST "value" "[B" → RoadKit.slotOf Z O n d ≠ RoadKit.slotOf Z ST "coder" "B" → RoadKit.Fld Z h' x O n d w
/-- **new String(chars) AT A CALL, IN THE ROAD'S FORM**: for specialBack behind newO: x the fresh String, b the char[] with the cell A -/
theorem back {p : Program} {l : Launch} {e : Env} {R : Room} {s : State} {args : Array Value} {below : List Frame} {len W : Nat} {Z : State} {a0 : Array Value} {h : Heap} (hZ : Z.Warmed39 s.vm) (hw : ∀ d ∈ words, d.before a0 Z = true) {kI : Nat} (wi : (Jvm.Cond.instantiable ST kI).before a0 Z = true)
    {x b : Addr} {A : Cell} {z : Int32} {v0 c0 : Value} (E : RoadKit.Exa Z h x ST) (V : RoadKit.Fld Z h x ST "value" "[B" v0) (C : RoadKit.Fld Z h x ST "coder" "B" c0) (K : RoadKit.Arr Z h b A .char) (hty : Typed .char A) (S : RoadKit.Sta Z h ST "COMPACT_STRINGS" "Z" (.int z)) (hz : ¬ z = 0)
    (l0 : 0 < A.slots.size) (l2 : A.slots.size ≤ 536870912) (hp : ∀ i, i < A.slots.size → ¬ 255 < cv A i) (hfr : 4 ≤ R.frames) (hlo : W + 65 ≤ R.locals) :
    Back l R p e below s args New1.yN len W (fun P a => a = #[.ref x, .ref b] ∧ P.U.heap = h ∧ P.cells + 1 ≤ R.cells ∧ P.slots + A.slots.size ≤ R.slots)
      (fun P _ v B => ∃ L, Q Z x A h v B.U.heap L ∧ B.locs = P.locs ++ L ∧ B.cells = P.cells + 1 ∧ B.slots = P.slots + A.slots.size) := by
  intro m meth c P g ig mk a X hg hsize hdg hW hn hp'
  obtain ⟨rfl, rfl, r1, r2⟩ := hp'
  have al : Z.vm.Alike P.U.vm := hZ.alike.trans X.warmed.alike
  obtain ⟨D, cfV, kV, iV, fV, hD, gV, stV, knV, obV, asV, slV⟩ := id V
  obtain ⟨D', cfC, kC, iC, fC, hD', gC, stC, -, -, asC, slC⟩ := id C
  cases hD.symm.trans hD'
  obtain ⟨D2, kD, e1, e2, e3, e4, e5⟩ := id E
  cases hD.symm.trans e1
  obtain ⟨c2, k2, i1, i2, i3, -⟩ := Cond.instantiable_spec wi
  cases e2.symm.trans i1
  cases e3.symm.trans i2
  obtain ⟨kU, u1, u2⟩ := al.2.2 _ _ e3
  have hB : Blank ST x D P.U := ⟨hD, ⟨knV, fun q hq => by rw [hq] at obV; cases obV⟩, by rw [al.findClass]; exact e2, kU, u1, by rw [u2]; exact i3, by rw [u2]; exact e5 i3⟩
  have F1 : Found ST "value" "[B" fV P.U := ⟨SBG.found_only al ⟨cfV, kV, iV, gV⟩, stV⟩
  have F2 : Found ST "coder" "B" fC P.U := ⟨SBG.found_only al ⟨cfC, kC, iC, gC⟩, stC⟩
  have hA : Ch b A P.U := ⟨⟨K.1, State.isArrayOf_alike al K.2.1, K.2.2, by omega⟩, hty⟩
  have hS : StaticIs P.U ST "COMPACT_STRINGS" "Z" (.int z) := by
    obtain ⟨cfS, iS, kS, fS, st, cS, t1, t2, t3, t4, t5, t6, t7⟩ := S
    exact StaticIs.there (s := { Z with heap := P.U.heap }) ⟨cfS, iS, kS, fS, st, cS, t1, t2, t3, t4, t5, (fun q => by rw [q] at t6; cases t6), t7⟩ al rfl
  obtain ⟨v, B, X', ⟨⟨hv, E', V', q1, q2, q3, q4, q5, q6, q7, q8, q9, q10, q11⟩, hl, hc, hs⟩, st⟩ := New1.pays x D fV fC b A z (tab_of (moved hZ hw)) hfr hlo m meth c P g ig mk _ X hg hsize hdg hW hn ⟨r1, r2, rfl, hB, F1, F2, hA, hS, hz, l0, l2, hp⟩
  have al' : Z.vm.Alike B.U.vm := hZ.alike.trans X'.warmed.alike
  have hsz : E'.slots.size = D.slots.size := by
    obtain ⟨-, -, -, kB, w1, w2, w3⟩ := q1
    obtain ⟨kB', y1, y2⟩ := al'.2.2 _ _ e3
    rw [q2.2.1] at w1
    cases w1.symm.trans y1
    rw [w3, e5 i3, y2]
  refine ⟨v, B, X', ⟨_, ⟨hv, ?_, ⟨by omega, fun y cy hy hn' => q10 y cy (by simpa using hn') hy, fun y cy hy => ?_⟩, q11, ⟨E', _, q1.1, by rw [q2.2.1]; exact e2, by rw [q2.2.1]; exact e3, by rw [q2.1]; exact obV, fun _ => by rw [hsz]; exact e5 i3⟩,
    ⟨E', cfV, kV, iV, fV, q1.1, gV, stV, by rw [q2.1]; exact knV, by rw [q2.1]; exact obV, by rw [q2.2.1]; exact asV, q3⟩, ⟨E', cfC, kC, iC, fC, q1.1, gC, stC, by rw [q2.1]; exact knV, by rw [q2.1]; exact obV, by rw [q2.2.1]; exact asC, q4⟩,
    ⟨V', ⟨q5.1, State.isArrayOf_alike al'.symm q5.2.1, q5.2.2.1⟩, q6, by rw [← al'.findClass]; exact q7, q8, fun j hj => by have := q9 j hj; rwa [Nat.zero_add] at this⟩, fun O n d w F n1 n2 => ?_⟩, hl, hc, hs⟩, st⟩
  · intro y hy
    simp only [List.mem_cons, List.not_mem_nil, or_false] at hy
    rcases hy with rfl | rfl <;> rfl
  · by_cases q : y = x
    · subst q
      cases hD.symm.trans hy
      exact ⟨E', q1.1, q2.2.1, q2.1, hsz⟩
    · exact ⟨cy, q10 y cy q hy, rfl, rfl, rfl⟩
  · obtain ⟨D3, cf, k, i, f, g1, g2, g3, g4, g5, g6, g7⟩ := F
    cases hD.symm.trans g1
    simp only [RoadKit.slotOf, g2, gV, gC, Option.map_some, Option.getD_some] at n1 n2
    exact ⟨E', cf, k, i, f, q1.1, g2, g3, by rw [q2.1]; exact g4, by rw [q2.1]; exact g5, by rw [q2.2.1]; exact g6, by rw [q2.2.2 f.slot (by simp [n1, n2])]; exact g7⟩
end StrChars.Road
namespace StrChars.Road
open Jvm Sem ClassFile Op Lib Jvm.Stand Jvm.Free Jvm.Free.XT
/-- WHAT COMES BACK, the byte[] as a list of values -/
def QA (Z : State) (x : Addr) (zn : Int32) (cs : List Int32) (h : Heap) (v : Option Value) (h' : Heap) (L : List Loc) : Prop := v = none ∧ (∀ y ∈ L, y.base = x) ∧ RoadKit.Keep h h' [x] ∧ h'.size = h.size + 1 ∧ RoadKit.Exa Z h' x ST ∧ RoadKit.Fld Z h' x ST "value" "[B" (.ref h.size) ∧ RoadKit.Fld Z h' x ST "coder" "B" (.int 0) ∧
  (∃ kb, Z.vm.findClass "[B" = some kb ∧ RoadKit.Arv Z h' h.size kb .byte zn (cs.map fun c => .int (lo8 c)) (.int 0)) ∧
  ∀ (O n d : String) (w : Value), RoadKit.Fld Z h x O n d w → RoadKit.slotOf Z O n d ≠ RoadKit.slotOf Z ST "value" "[B" → RoadKit.slotOf Z O n d ≠ RoadKit.slotOf Z ST "coder" "B" → RoadKit.Fld Z h' x O n d w
/-- **new String(chars) AT A CALL, THE ARRAYS AS LISTS**: the char[] at b holds cs, not empty, no char above 255 -/
theorem backArv {p : Program} {l : Launch} {e : Env} {R : Room} {s : State} {args : Array Value} {below : List Frame} {len W : Nat} {Z : State} {a0 : Array Value} {h : Heap} (hZ : Z.Warmed39 s.vm) (hw : ∀ d ∈ words, d.before a0 Z = true) {kI : Nat} (wi : (Jvm.Cond.instantiable ST kI).before a0 Z = true)
    {x b : Addr} {k : ClassId} {zn z : Int32} {cs : List Int32} {dv v0 c0 : Value} (E : RoadKit.Exa Z h x ST) (V : RoadKit.Fld Z h x ST "value" "[B" v0) (C : RoadKit.Fld Z h x ST "coder" "B" c0) (K : RoadKit.Arv Z h b k .char zn (cs.map Value.int) dv) (S : RoadKit.Sta Z h ST "COMPACT_STRINGS" "Z" (.int z)) (hz : ¬ z = 0)
    (hlen : zn.toNatClampNeg = cs.length) (h0 : 0 < cs.length) (hbig : cs.length ≤ 536870912) (hall : ∀ c ∈ cs, ¬ 255 < c) (hfr : 4 ≤ R.frames) (hlo : W + 65 ≤ R.locals) :
    Back l R p e below s args New1.yN len W (fun P a => a = #[.ref x, .ref b] ∧ P.U.heap = h ∧ P.cells + 1 ≤ R.cells ∧ P.slots + cs.length ≤ R.slots)
      (fun P _ v B => ∃ L, QA Z x zn cs h v B.U.heap L ∧ B.locs = P.locs ++ L ∧ B.cells = P.cells + 1 ∧ B.slots = P.slots + cs.length) := by
  obtain ⟨A, K1, K2, K3, K4, K5, K6⟩ := K
  have e : A.slots.size = cs.length := K3.trans hlen
  have hat : ∀ (i : Nat) (hi : i < cs.length), A.slots[i]? = some (.int cs[i]) := fun i hi => by rw [K5 i (by omega)]; simp [List.getD_eq_getElem?_getD, hi]
  have hcv : ∀ (i : Nat) (hi : i < cs.length), cv A i = cs[i] := fun i hi => by unfold cv; rw [hat i hi]
  have hty : Typed .char A := fun i v hv => by
    have hi : i < A.slots.size := (Array.getElem?_eq_some_iff.mp hv).1
    have q := K5 i hi
    rw [hv] at q
    rw [Option.some.inj q]
    exact K6 i hi
  refine Back.mono (back hZ hw wi E V C K1 hty S hz (by omega) (by omega) (fun i hi => by rw [hcv i (by omega)]; exact hall _ (List.getElem_mem _)) hfr hlo) (fun P a hp => ⟨hp.1, hp.2.1, hp.2.2.1, by rw [e]; exact hp.2.2.2⟩) (fun P a v B hp hq => ?_)
  obtain ⟨L, ⟨q1, q2, q3, q4, q5, q6, q7, ⟨V', v1, v2, v3, v4, v5⟩, q9⟩, hl, hc, hs⟩ := hq
  refine ⟨L, ⟨q1, q2, q3, q4, q5, q6, q7, ⟨V'.cls, v3, V', v1, rfl, by rw [v4, e, hlen], K4, fun i hi => ?_, fun i hi => ?_⟩, q9⟩, hl, hc, by rw [hs, e]⟩
  · have hi' : i < cs.length := by omega
    rw [v5 i (by omega), hcv i hi']; simp [List.getD_eq_getElem?_getD, hi']
  · have hi' : i < cs.length := by omega
    simp only [List.getD_eq_getElem?_getD, List.getElem?_map, List.getElem?_eq_getElem hi', Option.map_some, Option.getD_some]
    exact fits_lo8 _
end StrChars.Road
namespace StrChars.Road
open Jvm Sem ClassFile Op Lib Jvm.Stand Jvm.Free Jvm.Free.XT
/-- WHAT COMES BACK, in the writer's own shape -/
def QV (Z : State) (x : Addr) (N : Int32) (bs : List Int32) (h : Heap) (n0 : Nat) (v : Option Value) (h' : Heap) (L : List Loc) : Prop := v = none ∧ RoadKit.Fr n0 L ∧ RoadKit.Keep h h' [x] ∧ RoadKit.Exa Z h' x ST ∧ RoadKit.Fld Z h' x ST "coder" "B" (.int 0) ∧
  ∃ (t : Addr) (kb : ClassId), n0 ≤ t ∧ h.size ≤ t ∧ ¬ t = x ∧ RoadKit.Fld Z h' x ST "value" "[B" (.ref t) ∧ RoadKit.Arv Z h' t kb .byte N (bs.map Value.int) (.int 0)
/-- **new String(chars) AT A CALL, FOR THE WRITER**: a char[] of n known ints, each 0 to 255 -/
theorem backV {p : Program} {l : Launch} {e : Env} {R : Room} {s : State} {args : Array Value} {below : List Frame} {len W : Nat} {Z : State} {a0 : Array Value} {h : Heap} (hZ : Z.Warmed39 s.vm) (hw : ∀ d ∈ words, d.before a0 Z = true) {kI : Nat} (wi : (Jvm.Cond.instantiable ST kI).before a0 Z = true)
    {x b : Addr} {kC : ClassId} {cs bs : List Int32} {d v0 c0 : Value} {z N : Int32} {n n0 : Nat} (hx0 : n0 ≤ x) (hh0 : n0 ≤ h.size) (E : RoadKit.Exa Z h x ST) (V : RoadKit.Fld Z h x ST "value" "[B" v0) (C : RoadKit.Fld Z h x ST "coder" "B" c0) (K : RoadKit.Arv Z h b kC .char N (cs.map Value.int) d) (S : RoadKit.Sta Z h ST "COMPACT_STRINGS" "Z" (.int z)) (hz : ¬ z = 0)
    (hn : cs.length = n) (hN : N = Int32.ofNat n) (l0 : 0 < n) (l2 : n ≤ 4000) (hp : ∀ c ∈ cs, ¬ c < 0 ∧ ¬ (255 : Int32) < c) (hb : bs = cs.map (fun c => c.toInt8.toInt32)) (hfr : 4 ≤ R.frames) (hlo : W + 65 ≤ R.locals) :
    Back l R p e below s args (⟨"java/lang/String", "<init>", "([C)V"⟩ : MethodName) len W (fun P a => a = #[.ref x, .ref b] ∧ P.U.heap = h ∧ P.cells + 1 ≤ R.cells ∧ P.slots + n ≤ R.slots)
      (fun P _ v B => ∃ L, QV Z x N bs h n0 v B.U.heap L ∧ B.locs = P.locs ++ L ∧ B.cells = P.cells + 1 ∧ B.slots = P.slots + n) := by
  subst hn hN hb
  refine Back.mono (backArv hZ hw wi E V C K S hz (n32 (by omega)) l0 (by omega) (fun c hc => (hp c hc).2) hfr hlo) (fun P a hp => hp) (fun P a v B hp hq => ?_)
  obtain ⟨L, ⟨q1, q2, q3, q4, q5, q6, q7, ⟨kb, v1, v2⟩, q9⟩, hl, hc, hs⟩ := hq
  exact ⟨L, ⟨q1, fun y hy => by rw [q2 y hy]; exact hx0, q3, q5, q7, h.size, kb, hh0, Nat.le_refl _, Nat.ne_of_gt E.lt, q6, by rw [List.map_map]; exact v2⟩, hl, hc, hs⟩
end StrChars.Road
end Jvm.Pilot.@@N@@
namespace Jvm.RoadKit
open Sem ClassFile Op Lib Jvm.Stand Jvm.Free Jvm.LawKit
section New
variable {p : Program} {l : Launch} {e : Env} {R : Room} {s : State} {m : MethodId} {args : Array Value} {below : List Frame} {meth : Method} {c : Code} {T : State} {locs : List Loc} {cells slots : Nat}
theorem retI (X : Stand p l e R s m args below meth c T locs cells slots) (hx : p.tables.exec = Jvm.exec) {pc : Nat} {Ls : Array Slot} {z : Int32} {rest : List Value} (hret : meth.sig.returnType = some .int) (hd : decode c.code pc = .ok (.ireturn, 1)) {fs : List Frame}
    (hl : ∀ (f : JFrame) (acts : List Action), f.method = m → f.locked = none → f.entered = [] → (doReturn e (T.setTop f) acts (some (.int z))).1 = T.setFrames fs) : Steps p.tables e below (T.setTop (mkF m pc Ls (.int z :: rest))) (T.setFrames fs) := by
  have hm' : T.vm.method? m = some meth := X.method'
  have hn : narrow .int (.int z) = .int z := rfl
  show Steps p.tables e below (T.setTop { method := m, pc := pc, locals := Ls, stack := _ :: rest, locked := none }) _
  jvm_step X.here [X.here.top, hx, hd, hm', hret, hn]
  first | (intro acts; rw [hl _ acts rfl rfl rfl]) | rw [hl _ _ rfl rfl rfl]
  exact Steps.refl _
end New
end Jvm.RoadKit
namespace Jvm.Pilot.@@N@@
open Jvm Jvm.ClassFile Sem Op Lib Jvm.Free Jvm.Stand Jvm.LawKit Jvm.RoadKit Bundle Jvm.Pilot.@@N@@.Jvm.D
abbrev cSB : String := "java/lang/StringBuilder"
abbrev cAS : String := "java/lang/AbstractStringBuilder"
abbrev cJW : String := "com/example/adjoinery/adjoinery/JsonWriter"
abbrev cST : String := "java/lang/String"
abbrev mn0 : MethodName := ⟨"com/example/adjoinery/adjoinery/JsonWriter", "<init>", "()V"⟩
abbrev mn1 : MethodName := ⟨"java/lang/StringBuilder", "<init>", "()V"⟩
abbrev mn2 : MethodName := ⟨"java/lang/AbstractStringBuilder", "<init>", "(I)V"⟩
abbrev mn3 : MethodName := ⟨"com/example/adjoinery/adjoinery/JsonWriter", "drain", "()Ljava/lang/String;"⟩
abbrev mn4 : MethodName := ⟨"java/lang/StringBuilder", "toString", "()Ljava/lang/String;"⟩
abbrev mn5 : MethodName := ⟨"java/lang/String", "<init>", "(Ljava/lang/StringBuilder;)V"⟩
abbrev mn6 : MethodName := ⟨"java/lang/String", "<init>", "(Ljava/lang/AbstractStringBuilder;Ljava/lang/Void;)V"⟩
abbrev mn7 : MethodName := ⟨"java/lang/AbstractStringBuilder", "getValue", "()[B"⟩
abbrev mn8 : MethodName := ⟨"java/lang/StringBuilder", "length", "()I"⟩
abbrev mn9 : MethodName := ⟨"java/lang/AbstractStringBuilder", "length", "()I"⟩
abbrev mn10 : MethodName := ⟨"java/lang/AbstractStringBuilder", "isLatin1", "()Z"⟩
abbrev mn11 : MethodName := ⟨"java/util/Arrays", "copyOfRange", "([BII)[B"⟩
abbrev mn12 : MethodName := ⟨"java/util/Arrays", "copyOfRangeByte", "([BII)[B"⟩
abbrev mn13 : MethodName := ⟨"java/util/Arrays", "checkLength", "(II)V"⟩
abbrev mn14 : MethodName := ⟨"java/lang/Math", "min", "(II)I"⟩
abbrev mn15 : MethodName := ⟨"java/lang/StringBuilder", "setLength", "(I)V"⟩
abbrev mn16 : MethodName := ⟨"java/lang/AbstractStringBuilder", "setLength", "(I)V"⟩
abbrev mn17 : MethodName := ⟨"java/lang/AbstractStringBuilder", "ensureCapacityInternal", "(I)V"⟩
abbrev mn18 : MethodName := ⟨"com/example/adjoinery/adjoinery/JsonWriter", "startArray", "()Lcom/example/adjoinery/adjoinery/JsonWriter;"⟩
abbrev mn19 : MethodName := ⟨"com/example/adjoinery/adjoinery/JsonWriter", "open", "(C)Lcom/example/adjoinery/adjoinery/JsonWriter;"⟩
abbrev mn20 : MethodName := ⟨"com/example/adjoinery/adjoinery/JsonWriter", "separate", "()V"⟩
abbrev mn21 : MethodName := ⟨"java/lang/StringBuilder", "append", "(C)Ljava/lang/StringBuilder;"⟩
abbrev mn22 : MethodName := ⟨"java/lang/AbstractStringBuilder", "append", "(C)Ljava/lang/AbstractStringBuilder;"⟩
abbrev mn23 : MethodName := ⟨"java/lang/StringLatin1", "canEncode", "(C)Z"⟩
abbrev mn24 : MethodName := ⟨"com/example/adjoinery/adjoinery/JsonWriter", "endArray", "()Lcom/example/adjoinery/adjoinery/JsonWriter;"⟩
abbrev mn25 : MethodName := ⟨"com/example/adjoinery/adjoinery/JsonWriter", "close", "(C)Lcom/example/adjoinery/adjoinery/JsonWriter;"⟩
abbrev mn26 : MethodName := ⟨"java/lang/String", "valueOf", "(C)Ljava/lang/String;"⟩
abbrev mn27 : MethodName := ⟨"java/lang/StringLatin1", "toBytes", "(C)[B"⟩
abbrev mn28 : MethodName := ⟨"java/lang/String", "<init>", "([BB)V"⟩
abbrev mn29 : MethodName := ⟨"java/lang/String", "isEmpty", "()Z"⟩
abbrev mn30 : MethodName := ⟨"java/lang/String", "equals", "(Ljava/lang/Object;)Z"⟩
abbrev mn31 : MethodName := ⟨"java/lang/StringLatin1", "equals", "([B[B)Z"⟩
abbrev mn32 : MethodName := ⟨"com/example/adjoinery/adjoinery/JsonWriter", "number", "(J)Lcom/example/adjoinery/adjoinery/JsonWriter;"⟩
abbrev mn33 : MethodName := ⟨"java/lang/StringBuilder", "append", "(J)Ljava/lang/StringBuilder;"⟩
abbrev mn34 : MethodName := ⟨"java/lang/AbstractStringBuilder", "append", "(J)Ljava/lang/AbstractStringBuilder;"⟩
abbrev mn35 : MethodName := ⟨"java/lang/Long", "stringSize", "(J)I"⟩
abbrev mn36 : MethodName := ⟨"java/lang/Long", "getChars", "(JI[B)I"⟩
abbrev mn37 : MethodName := ⟨"java/lang/String", "<init>", "([C)V"⟩
/-- where the walk stands, and what is still to come of it -/
abbrev Go (tb : Tables) (e : Env) (below : List Frame) (P : State → Outcome → Prop) (σ : State) : Prop := ∃ s₂ o, Steps tb e below σ s₂ ∧ P s₂ o
theorem go_st {tb : Tables} {e : Env} {below : List Frame} {P : State → Outcome → Prop} {σ σ' : State} (st : ∀ t, Steps tb e below σ' t → Steps tb e below σ t) (k : Go tb e below P σ') : Go tb e below P σ := by
  obtain ⟨a, b, c, d⟩ := k; exact ⟨a, b, st _ c, d⟩
theorem go_tr {tb : Tables} {e : Env} {below : List Frame} {P : State → Outcome → Prop} {σ σ' : State} (st : Steps tb e below σ σ') (k : Go tb e below P σ') : Go tb e below P σ := by
  obtain ⟨a, b, c, d⟩ := k; exact ⟨a, b, st.trans c, d⟩
theorem go_named {tb : Tables} {e : Env} {below : List Frame} {P : State → Outcome → Prop} {σ : State} (k : ∀ P', P' = P → Go tb e below P' σ) : Go tb e below P σ := k P rfl
theorem ext_rfl (h : Heap) : Ext h h := ⟨Nat.le_refl _, fun _ _ q => q⟩
theorem ext_tr {h h' h'' : Heap} (E : Ext h h') (E' : Ext h' h'') : Ext h h'' := ⟨Nat.le_trans E.1 E'.1, fun a c q => E'.2 a c (E.2 a c q)⟩
theorem ext_keep {h h' h'' : Heap} {ws : List Addr} (E : Ext h h') (K : Keep h' h'' ws) (q : ∀ x ∈ ws, h.size ≤ x) : Ext h h'' :=
  ⟨Nat.le_trans E.1 K.1, fun a c r => K.2.1 a c (E.2 a c r) fun z => absurd (Array.getElem?_eq_some_iff.mp r).1 (Nat.not_lt.mpr (q a z))⟩
theorem ext_wr {h h' h'' : Heap} {b : Addr} {sl : Nat} {v : Value} (E : Ext h h') (W : Wr h' h'' b sl v) (q : h.size ≤ b) : Ext h h'' := ext_keep E (Keep.of_wr W) (allS q all0)
theorem keep_of_ext {h h' : Heap} (E : Ext h h') : Keep h h' [] := (Keep.refl h []).ext E
theorem ref_cat {v : Value} (h : v.isRef = true) : v.category = 1 := by rcases ref_cases h with rfl | ⟨a, rfl⟩ <;> rfl
theorem ref_fits {v : Value} (C : String) (h : v.isRef = true) : fits (.object C) v = true := by rcases ref_cases h with rfl | ⟨a, rfl⟩ <;> rfl
theorem ref_narrow {v : Value} (C : String) (h : v.isRef = true) : narrow (.object C) v = v := by rcases ref_cases h with rfl | ⟨a, rfl⟩ <;> rfl
theorem nf_same {s : State} {a0 : Array Value} {y y' : MethodName} (hc : y'.cls = y.cls) (hi : (Jvm.Cond.instanceMethod y').before a0 s = true) (nf : NotFace s y') : NotFace s y := fun r0 h0 => by
  obtain ⟨mk, methM, hnamed, -⟩ := Cond.instanceMethod_spec hi
  obtain ⟨k, hk, hn⟩ := nf mk hnamed
  have e1 := findClass_of_methodNamed h0
  have e2 := findClass_of_methodNamed hnamed
  rw [hc, e1] at e2
  exact ⟨k, (Option.some.inj e2) ▸ hk, hn⟩
theorem sel_priv {s : State} {a0 : Array Value} {y : MethodName} (wp : (Jvm.Cond.privateMethod y).before a0 s = true) (wi : (Jvm.Cond.instanceMethod y).before a0 s = true) (nf : NotFace s y) (hy : y.cls ≠ "java/lang/invoke/MethodHandle" ∧ y.cls ≠ "java/lang/invoke/VarHandle") : (Jvm.Cond.selects y.cls y y).before a0 s = true := by
  obtain ⟨mk, methM, hnamed, -⟩ := Cond.instanceMethod_spec wi
  obtain ⟨k, hk, hn⟩ := nf mk hnamed
  exact selects_self_of_private (findClass_of_methodNamed hnamed) hk hn (Cond.privateMethod_at wp) wi hy
theorem same_self {s : State} {a0 : Array Value} {y : MethodName} (wi : (Jvm.Cond.instanceMethod y).before a0 s = true) (nf : NotFace s y) (hy : y.cls ≠ "java/lang/invoke/MethodHandle" ∧ y.cls ≠ "java/lang/invoke/VarHandle") : (Jvm.Cond.sameMethod y.cls y.cls y.name y.desc).before a0 s = true := by
  obtain ⟨mk, methM, hnamed, -⟩ := Cond.instanceMethod_spec wi
  obtain ⟨k, hk, hn⟩ := nf mk hnamed
  have hf := State.methodFound?_of_named hnamed hy
  have hc := findClass_of_methodNamed hnamed
  have hn' : s.methodNamed? ⟨y.cls, y.name, y.desc⟩ = some mk := hnamed
  simp [Cond.before, Cond.holds, Cond.value, hc, hf, hn', hk, hn]
theorem pn_com_example_adjoinery_adjoinery_JsonWriterDrainPinLaw : plainName "com/example/adjoinery/adjoinery/JsonWriterDrainPinLaw" = true := by first | (simp [plainName, overriddenIn]; done) | decide +kernel
theorem w0 {Z : State} {a0 : Array Value} (hw : ∀ d ∈ tables_1, d.before a0 Z = true) : (Jvm.Cond.constant "com/example/adjoinery/adjoinery/JsonWriterDrainPinLaw" (7 : Nat) (2147483647 : Int32)).before a0 Z = true := hw _ (List.mem_of_getElem? (i := 0) rfl)
theorem w1 {Z : State} {a0 : Array Value} (hw : ∀ d ∈ tables_1, d.before a0 Z = true) : (Jvm.Cond.classLink "com/example/adjoinery/adjoinery/JsonWriterDrainPinLaw" (8 : Nat) "com/example/adjoinery/adjoinery/JsonWriter").before a0 Z = true := hw _ (List.mem_of_getElem? (i := 1) rfl)
theorem w2 {Z : State} {a0 : Array Value} (hw : ∀ d ∈ tables_1, d.before a0 Z = true) : (Jvm.Cond.instantiable "com/example/adjoinery/adjoinery/JsonWriter" (2 : Nat)).before a0 Z = true := hw _ (List.mem_of_getElem? (i := 2) rfl)
theorem w3 {Z : State} {a0 : Array Value} (hw : ∀ d ∈ tables_1, d.before a0 Z = true) : (Jvm.Cond.initialized "com/example/adjoinery/adjoinery/JsonWriter").before a0 Z = true := hw _ (List.mem_of_getElem? (i := 3) rfl)
theorem w31 {Z : State} {a0 : Array Value} (hw : ∀ d ∈ tables_1, d.before a0 Z = true) : (Jvm.Cond.laysFinal "com/example/adjoinery/adjoinery/JsonWriter" "com/example/adjoinery/adjoinery/JsonWriter" "text" "Ljava/lang/StringBuilder;").before a0 Z = true := hw _ (List.mem_of_getElem? (i := 31) rfl)
theorem w123 {Z : State} {a0 : Array Value} (hw : ∀ d ∈ tables_1, d.before a0 Z = true) : (Jvm.Cond.lays "com/example/adjoinery/adjoinery/JsonWriter" "com/example/adjoinery/adjoinery/JsonWriter" "afterValue" "Z").before a0 Z = true := hw _ (List.mem_of_getElem? (i := 123) rfl)
theorem pn_com_example_adjoinery_adjoinery_JsonWriter : plainName "com/example/adjoinery/adjoinery/JsonWriter" = true := by first | (simp [plainName, overriddenIn]; done) | decide +kernel
theorem d0_0 : decode prog_33_method_1_code 0 = .ok (.aload_n 0, 1) := by decide +kernel
theorem d0_1 : decode prog_33_method_1_code 1 = .ok (.invokespecial 1, 3) := by decide +kernel
theorem w7 {Z : State} {a0 : Array Value} (hw : ∀ d ∈ tables_1, d.before a0 Z = true) : (Jvm.Cond.methodLink "com/example/adjoinery/adjoinery/JsonWriter" (1 : Nat) ({ cls := "java/lang/Object", name := "<init>", desc := "()V" } : Jvm.MethodName)).before a0 Z = true := hw _ (List.mem_of_getElem? (i := 7) rfl)
theorem w8 {Z : State} {a0 : Array Value} (hw : ∀ d ∈ tables_1, d.before a0 Z = true) : (Jvm.Cond.instanceMethod ({ cls := "java/lang/Object", name := "<init>", desc := "()V" } : Jvm.MethodName)).before a0 Z = true := hw _ (List.mem_of_getElem? (i := 8) rfl)
theorem w9 {Z : State} {a0 : Array Value} (hw : ∀ d ∈ tables_1, d.before a0 Z = true) : (Jvm.Cond.code ({ cls := "java/lang/Object", name := "<init>", desc := "()V" } : Jvm.MethodName) object_method_1_code (1 : Nat) (Option.none : Option Jvm.ClassFile.FieldType)).before a0 Z = true := hw _ (List.mem_of_getElem? (i := 9) rfl)
theorem d0_4 : decode prog_33_method_1_code 4 = .ok (.aload_n 0, 1) := by decide +kernel
theorem d0_5 : decode prog_33_method_1_code 5 = .ok (.new 7, 3) := by decide +kernel
theorem w10 {Z : State} {a0 : Array Value} (hw : ∀ d ∈ tables_1, d.before a0 Z = true) : (Jvm.Cond.classLink "com/example/adjoinery/adjoinery/JsonWriter" (7 : Nat) "java/lang/StringBuilder").before a0 Z = true := hw _ (List.mem_of_getElem? (i := 10) rfl)
theorem w11 {Z : State} {a0 : Array Value} (hw : ∀ d ∈ tables_1, d.before a0 Z = true) : (Jvm.Cond.instantiable "java/lang/StringBuilder" (4 : Nat)).before a0 Z = true := hw _ (List.mem_of_getElem? (i := 11) rfl)
theorem w12 {Z : State} {a0 : Array Value} (hw : ∀ d ∈ tables_1, d.before a0 Z = true) : (Jvm.Cond.initialized "java/lang/StringBuilder").before a0 Z = true := hw _ (List.mem_of_getElem? (i := 12) rfl)
theorem w27 {Z : State} {a0 : Array Value} (hw : ∀ d ∈ tables_1, d.before a0 Z = true) : (Jvm.Cond.lays "java/lang/StringBuilder" "java/lang/AbstractStringBuilder" "value" "[B").before a0 Z = true := hw _ (List.mem_of_getElem? (i := 27) rfl)
theorem w29 {Z : State} {a0 : Array Value} (hw : ∀ d ∈ tables_1, d.before a0 Z = true) : (Jvm.Cond.lays "java/lang/StringBuilder" "java/lang/AbstractStringBuilder" "coder" "B").before a0 Z = true := hw _ (List.mem_of_getElem? (i := 29) rfl)
theorem w67 {Z : State} {a0 : Array Value} (hw : ∀ d ∈ tables_1, d.before a0 Z = true) : (Jvm.Cond.lays "java/lang/StringBuilder" "java/lang/AbstractStringBuilder" "count" "I").before a0 Z = true := hw _ (List.mem_of_getElem? (i := 67) rfl)
theorem w139 {Z : State} {a0 : Array Value} (hw : ∀ d ∈ tables_1, d.before a0 Z = true) : (Jvm.Cond.lays "java/lang/StringBuilder" "java/lang/AbstractStringBuilder" "maybeLatin1" "Z").before a0 Z = true := hw _ (List.mem_of_getElem? (i := 139) rfl)
theorem d0_8 : decode prog_33_method_1_code 8 = .ok (.dup, 1) := by decide +kernel
theorem d0_9 : decode prog_33_method_1_code 9 = .ok (.invokespecial 9, 3) := by decide +kernel
theorem pn_java_lang_StringBuilder : plainName "java/lang/StringBuilder" = true := by first | (simp [plainName, overriddenIn]; done) | decide +kernel
theorem d1_0 : decode jdk_67_method_1_code 0 = .ok (.aload_n 0, 1) := by decide +kernel
theorem d1_1 : decode jdk_67_method_1_code 1 = .ok (.bipush 16, 2) := by decide +kernel
theorem d1_3 : decode jdk_67_method_1_code 3 = .ok (.invokespecial 1, 3) := by decide +kernel
theorem pn_java_lang_AbstractStringBuilder : plainName "java/lang/AbstractStringBuilder" = true := by first | (simp [plainName, overriddenIn]; done) | decide +kernel
theorem d2_0 : decode jdk_68_method_2_code 0 = .ok (.aload_n 0, 1) := by decide +kernel
theorem d2_1 : decode jdk_68_method_2_code 1 = .ok (.invokespecial 3, 3) := by decide +kernel
theorem w22 {Z : State} {a0 : Array Value} (hw : ∀ d ∈ tables_1, d.before a0 Z = true) : (Jvm.Cond.methodLink "java/lang/AbstractStringBuilder" (3 : Nat) ({ cls := "java/lang/Object", name := "<init>", desc := "()V" } : Jvm.MethodName)).before a0 Z = true := hw _ (List.mem_of_getElem? (i := 22) rfl)
theorem d2_4 : decode jdk_68_method_2_code 4 = .ok (.getstatic 18, 3) := by decide +kernel
theorem w23 {Z : State} {a0 : Array Value} (hw : ∀ d ∈ tables_1, d.before a0 Z = true) : (Jvm.Cond.fieldLink "java/lang/AbstractStringBuilder" (18 : Nat) "java/lang/String" "COMPACT_STRINGS" "Z").before a0 Z = true := hw _ (List.mem_of_getElem? (i := 23) rfl)
theorem d2_7 : decode jdk_68_method_2_code 7 = .ok (.ifCond .eq 18, 3) := by decide +kernel
theorem d2_10 : decode jdk_68_method_2_code 10 = .ok (.aload_n 0, 1) := by decide +kernel
theorem d2_11 : decode jdk_68_method_2_code 11 = .ok (.iload_n 1, 1) := by decide +kernel
theorem d2_12 : decode jdk_68_method_2_code 12 = .ok (.newarray .byte, 2) := by decide +kernel
theorem w25 {Z : State} {a0 : Array Value} (hw : ∀ d ∈ tables_1, d.before a0 Z = true) : (Jvm.Cond.arrayClass Jvm.ClassFile.FieldType.byte).before a0 Z = true := hw _ (List.mem_of_getElem? (i := 25) rfl)
theorem d2_14 : decode jdk_68_method_2_code 14 = .ok (.putfield 15, 3) := by decide +kernel
theorem w26 {Z : State} {a0 : Array Value} (hw : ∀ d ∈ tables_1, d.before a0 Z = true) : (Jvm.Cond.fieldLink "java/lang/AbstractStringBuilder" (15 : Nat) "java/lang/AbstractStringBuilder" "value" "[B").before a0 Z = true := hw _ (List.mem_of_getElem? (i := 26) rfl)
theorem d2_17 : decode jdk_68_method_2_code 17 = .ok (.aload_n 0, 1) := by decide +kernel
theorem d2_18 : decode jdk_68_method_2_code 18 = .ok (.iconst 0, 1) := by decide +kernel
theorem d2_19 : decode jdk_68_method_2_code 19 = .ok (.putfield 22, 3) := by decide +kernel
theorem w28 {Z : State} {a0 : Array Value} (hw : ∀ d ∈ tables_1, d.before a0 Z = true) : (Jvm.Cond.fieldLink "java/lang/AbstractStringBuilder" (22 : Nat) "java/lang/AbstractStringBuilder" "coder" "B").before a0 Z = true := hw _ (List.mem_of_getElem? (i := 28) rfl)
theorem d2_22 : decode jdk_68_method_2_code 22 = .ok (.goto 16, 3) := by decide +kernel
theorem d2_38 : decode jdk_68_method_2_code 38 = .ok (.return_, 1) := by decide +kernel
theorem w21 {Z : State} {a0 : Array Value} (hw : ∀ d ∈ tables_1, d.before a0 Z = true) : (Jvm.Cond.code ({ cls := "java/lang/AbstractStringBuilder", name := "<init>", desc := "(I)V" } : Jvm.MethodName) jdk_68_method_2_code (2 : Nat) (Option.none : Option Jvm.ClassFile.FieldType)).before a0 Z = true := hw _ (List.mem_of_getElem? (i := 21) rfl)
theorem w20 {Z : State} {a0 : Array Value} (hw : ∀ d ∈ tables_1, d.before a0 Z = true) : (Jvm.Cond.initialized "java/lang/AbstractStringBuilder").before a0 Z = true := hw _ (List.mem_of_getElem? (i := 20) rfl)
theorem pd_0 : parseMethodDescriptor "(I)V" = some ⟨[.int], none⟩ := by decide +kernel
theorem w16 {Z : State} {a0 : Array Value} (hw : ∀ d ∈ tables_1, d.before a0 Z = true) : (Jvm.Cond.methodLink "java/lang/StringBuilder" (1 : Nat) ({ cls := "java/lang/AbstractStringBuilder", name := "<init>", desc := "(I)V" } : Jvm.MethodName)).before a0 Z = true := hw _ (List.mem_of_getElem? (i := 16) rfl)
theorem w17 {Z : State} {a0 : Array Value} (hw : ∀ d ∈ tables_1, d.before a0 Z = true) : (Jvm.Cond.instanceMethod ({ cls := "java/lang/AbstractStringBuilder", name := "<init>", desc := "(I)V" } : Jvm.MethodName)).before a0 Z = true := hw _ (List.mem_of_getElem? (i := 17) rfl)
theorem d1_6 : decode jdk_67_method_1_code 6 = .ok (.return_, 1) := by decide +kernel
theorem w15 {Z : State} {a0 : Array Value} (hw : ∀ d ∈ tables_1, d.before a0 Z = true) : (Jvm.Cond.code ({ cls := "java/lang/StringBuilder", name := "<init>", desc := "()V" } : Jvm.MethodName) jdk_67_method_1_code (1 : Nat) (Option.none : Option Jvm.ClassFile.FieldType)).before a0 Z = true := hw _ (List.mem_of_getElem? (i := 15) rfl)
theorem pd_1 : parseMethodDescriptor "()V" = some ⟨[], none⟩ := by decide +kernel
theorem w13 {Z : State} {a0 : Array Value} (hw : ∀ d ∈ tables_1, d.before a0 Z = true) : (Jvm.Cond.methodLink "com/example/adjoinery/adjoinery/JsonWriter" (9 : Nat) ({ cls := "java/lang/StringBuilder", name := "<init>", desc := "()V" } : Jvm.MethodName)).before a0 Z = true := hw _ (List.mem_of_getElem? (i := 13) rfl)
theorem w14 {Z : State} {a0 : Array Value} (hw : ∀ d ∈ tables_1, d.before a0 Z = true) : (Jvm.Cond.instanceMethod ({ cls := "java/lang/StringBuilder", name := "<init>", desc := "()V" } : Jvm.MethodName)).before a0 Z = true := hw _ (List.mem_of_getElem? (i := 14) rfl)
theorem d0_12 : decode prog_33_method_1_code 12 = .ok (.putfield 10, 3) := by decide +kernel
theorem w30 {Z : State} {a0 : Array Value} (hw : ∀ d ∈ tables_1, d.before a0 Z = true) : (Jvm.Cond.fieldLink "com/example/adjoinery/adjoinery/JsonWriter" (10 : Nat) "com/example/adjoinery/adjoinery/JsonWriter" "text" "Ljava/lang/StringBuilder;").before a0 Z = true := hw _ (List.mem_of_getElem? (i := 30) rfl)
theorem d0_15 : decode prog_33_method_1_code 15 = .ok (.return_, 1) := by decide +kernel
theorem w6 {Z : State} {a0 : Array Value} (hw : ∀ d ∈ tables_1, d.before a0 Z = true) : (Jvm.Cond.code ({ cls := "com/example/adjoinery/adjoinery/JsonWriter", name := "<init>", desc := "()V" } : Jvm.MethodName) prog_33_method_1_code (1 : Nat) (Option.none : Option Jvm.ClassFile.FieldType)).before a0 Z = true := hw _ (List.mem_of_getElem? (i := 6) rfl)
theorem w4 {Z : State} {a0 : Array Value} (hw : ∀ d ∈ tables_1, d.before a0 Z = true) : (Jvm.Cond.methodLink "com/example/adjoinery/adjoinery/JsonWriterDrainPinLaw" (10 : Nat) ({ cls := "com/example/adjoinery/adjoinery/JsonWriter", name := "<init>", desc := "()V" } : Jvm.MethodName)).before a0 Z = true := hw _ (List.mem_of_getElem? (i := 4) rfl)
theorem w5 {Z : State} {a0 : Array Value} (hw : ∀ d ∈ tables_1, d.before a0 Z = true) : (Jvm.Cond.instanceMethod ({ cls := "com/example/adjoinery/adjoinery/JsonWriter", name := "<init>", desc := "()V" } : Jvm.MethodName)).before a0 Z = true := hw _ (List.mem_of_getElem? (i := 5) rfl)
theorem d3_0 : decode prog_33_method_10_code 0 = .ok (.aload_n 0, 1) := by decide +kernel
theorem d3_1 : decode prog_33_method_10_code 1 = .ok (.getfield 10, 3) := by decide +kernel
theorem d3_4 : decode prog_33_method_10_code 4 = .ok (.invokevirtual 44, 3) := by decide +kernel
theorem d4_0 : decode jdk_67_method_42_code 0 = .ok (.new 18, 3) := by decide +kernel
theorem w42 {Z : State} {a0 : Array Value} (hw : ∀ d ∈ tables_1, d.before a0 Z = true) : (Jvm.Cond.classLink "java/lang/StringBuilder" (18 : Nat) "java/lang/String").before a0 Z = true := hw _ (List.mem_of_getElem? (i := 42) rfl)
theorem w43 {Z : State} {a0 : Array Value} (hw : ∀ d ∈ tables_1, d.before a0 Z = true) : (Jvm.Cond.instantiable "java/lang/String" (4 : Nat)).before a0 Z = true := hw _ (List.mem_of_getElem? (i := 43) rfl)
theorem w24 {Z : State} {a0 : Array Value} (hw : ∀ d ∈ tables_1, d.before a0 Z = true) : (Jvm.Cond.initialized "java/lang/String").before a0 Z = true := hw _ (List.mem_of_getElem? (i := 24) rfl)
theorem w74 {Z : State} {a0 : Array Value} (hw : ∀ d ∈ tables_1, d.before a0 Z = true) : (Jvm.Cond.laysFinal "java/lang/String" "java/lang/String" "coder" "B").before a0 Z = true := hw _ (List.mem_of_getElem? (i := 74) rfl)
theorem w94 {Z : State} {a0 : Array Value} (hw : ∀ d ∈ tables_1, d.before a0 Z = true) : (Jvm.Cond.laysFinal "java/lang/String" "java/lang/String" "value" "[B").before a0 Z = true := hw _ (List.mem_of_getElem? (i := 94) rfl)
theorem d4_3 : decode jdk_67_method_42_code 3 = .ok (.dup, 1) := by decide +kernel
theorem d4_4 : decode jdk_67_method_42_code 4 = .ok (.aload_n 0, 1) := by decide +kernel
theorem d4_5 : decode jdk_67_method_42_code 5 = .ok (.invokespecial 137, 3) := by decide +kernel
theorem pn_java_lang_String : plainName "java/lang/String" = true := by first | (simp [plainName, overriddenIn]; done) | decide +kernel
theorem d5_0 : decode jdk_42_method_53_code 0 = .ok (.aload_n 0, 1) := by decide +kernel
theorem d5_1 : decode jdk_42_method_53_code 1 = .ok (.aload_n 1, 1) := by decide +kernel
theorem d5_2 : decode jdk_42_method_53_code 2 = .ok (.aconst_null, 1) := by decide +kernel
theorem d5_3 : decode jdk_42_method_53_code 3 = .ok (.invokespecial 489, 3) := by decide +kernel
theorem d6_0 : decode jdk_42_method_150_code 0 = .ok (.aload_n 0, 1) := by decide +kernel
theorem d6_1 : decode jdk_42_method_150_code 1 = .ok (.invokespecial 1, 3) := by decide +kernel
theorem w51 {Z : State} {a0 : Array Value} (hw : ∀ d ∈ tables_1, d.before a0 Z = true) : (Jvm.Cond.methodLink "java/lang/String" (1 : Nat) ({ cls := "java/lang/Object", name := "<init>", desc := "()V" } : Jvm.MethodName)).before a0 Z = true := hw _ (List.mem_of_getElem? (i := 51) rfl)
theorem d6_4 : decode jdk_42_method_150_code 4 = .ok (.aload_n 1, 1) := by decide +kernel
theorem d6_5 : decode jdk_42_method_150_code 5 = .ok (.invokevirtual 552, 3) := by decide +kernel
theorem d7_0 : decode jdk_68_method_64_code 0 = .ok (.aload_n 0, 1) := by decide +kernel
theorem d7_1 : decode jdk_68_method_64_code 1 = .ok (.getfield 15, 3) := by decide +kernel
theorem d7_4 : decode jdk_68_method_64_code 4 = .ok (.areturn, 1) := by decide +kernel
theorem w56 {Z : State} {a0 : Array Value} (hw : ∀ d ∈ tables_1, d.before a0 Z = true) : (Jvm.Cond.code ({ cls := "java/lang/AbstractStringBuilder", name := "getValue", desc := "()[B" } : Jvm.MethodName) jdk_68_method_64_code (1 : Nat) (Option.some (Jvm.ClassFile.FieldType.array Jvm.ClassFile.FieldType.byte))).before a0 Z = true := hw _ (List.mem_of_getElem? (i := 56) rfl)
theorem pd_2 : parseMethodDescriptor "()[B" = some ⟨[], some (.array .byte)⟩ := by decide +kernel
theorem w52 {Z : State} {a0 : Array Value} (hw : ∀ d ∈ tables_1, d.before a0 Z = true) : (Jvm.Cond.methodLink "java/lang/String" (552 : Nat) ({ cls := "java/lang/AbstractStringBuilder", name := "getValue", desc := "()[B" } : Jvm.MethodName)).before a0 Z = true := hw _ (List.mem_of_getElem? (i := 52) rfl)
theorem w55 {Z : State} {a0 : Array Value} (hw : ∀ d ∈ tables_1, d.before a0 Z = true) : (Jvm.Cond.selects "java/lang/StringBuilder" ({ cls := "java/lang/AbstractStringBuilder", name := "getValue", desc := "()[B" } : Jvm.MethodName) ({ cls := "java/lang/AbstractStringBuilder", name := "getValue", desc := "()[B" } : Jvm.MethodName)).before a0 Z = true := hw _ (List.mem_of_getElem? (i := 55) rfl)
theorem w53 {Z : State} {a0 : Array Value} (hw : ∀ d ∈ tables_1, d.before a0 Z = true) : (Jvm.Cond.declares ({ cls := "java/lang/AbstractStringBuilder", name := "getValue", desc := "()[B" } : Jvm.MethodName)).before a0 Z = true := hw _ (List.mem_of_getElem? (i := 53) rfl)
theorem w54 {Z : State} {a0 : Array Value} (hw : ∀ d ∈ tables_1, d.before a0 Z = true) : (Jvm.Cond.instanceMethod ({ cls := "java/lang/AbstractStringBuilder", name := "getValue", desc := "()[B" } : Jvm.MethodName)).before a0 Z = true := hw _ (List.mem_of_getElem? (i := 54) rfl)
theorem d6_8 : decode jdk_42_method_150_code 8 = .ok (.astore_n 3, 1) := by decide +kernel
theorem d6_9 : decode jdk_42_method_150_code 9 = .ok (.aload_n 1, 1) := by decide +kernel
theorem d6_10 : decode jdk_42_method_150_code 10 = .ok (.invokevirtual 549, 3) := by decide +kernel
theorem d8_0 : decode jdk_67_method_93_code 0 = .ok (.aload_n 0, 1) := by decide +kernel
theorem d8_1 : decode jdk_67_method_93_code 1 = .ok (.invokespecial 343, 3) := by decide +kernel
theorem d9_0 : decode jdk_68_method_6_code 0 = .ok (.aload_n 0, 1) := by decide +kernel
theorem d9_1 : decode jdk_68_method_6_code 1 = .ok (.getfield 79, 3) := by decide +kernel
theorem w66 {Z : State} {a0 : Array Value} (hw : ∀ d ∈ tables_1, d.before a0 Z = true) : (Jvm.Cond.fieldLink "java/lang/AbstractStringBuilder" (79 : Nat) "java/lang/AbstractStringBuilder" "count" "I").before a0 Z = true := hw _ (List.mem_of_getElem? (i := 66) rfl)
theorem d9_4 : decode jdk_68_method_6_code 4 = .ok (.ireturn, 1) := by decide +kernel
theorem w65 {Z : State} {a0 : Array Value} (hw : ∀ d ∈ tables_1, d.before a0 Z = true) : (Jvm.Cond.code ({ cls := "java/lang/AbstractStringBuilder", name := "length", desc := "()I" } : Jvm.MethodName) jdk_68_method_6_code (1 : Nat) (Option.some Jvm.ClassFile.FieldType.int)).before a0 Z = true := hw _ (List.mem_of_getElem? (i := 65) rfl)
theorem pd_3 : parseMethodDescriptor "()I" = some ⟨[], some .int⟩ := by decide +kernel
theorem w63 {Z : State} {a0 : Array Value} (hw : ∀ d ∈ tables_1, d.before a0 Z = true) : (Jvm.Cond.methodLink "java/lang/StringBuilder" (343 : Nat) ({ cls := "java/lang/AbstractStringBuilder", name := "length", desc := "()I" } : Jvm.MethodName)).before a0 Z = true := hw _ (List.mem_of_getElem? (i := 63) rfl)
theorem w59 {Z : State} {a0 : Array Value} (hw : ∀ d ∈ tables_1, d.before a0 Z = true) : (Jvm.Cond.instanceMethod ({ cls := "java/lang/AbstractStringBuilder", name := "length", desc := "()I" } : Jvm.MethodName)).before a0 Z = true := hw _ (List.mem_of_getElem? (i := 59) rfl)
theorem w64 {Z : State} {a0 : Array Value} (hw : ∀ d ∈ tables_1, d.before a0 Z = true) : (Jvm.Cond.superclass "java/lang/StringBuilder" "java/lang/AbstractStringBuilder").before a0 Z = true := hw _ (List.mem_of_getElem? (i := 64) rfl)
theorem d8_4 : decode jdk_67_method_93_code 4 = .ok (.ireturn, 1) := by decide +kernel
theorem w62 {Z : State} {a0 : Array Value} (hw : ∀ d ∈ tables_1, d.before a0 Z = true) : (Jvm.Cond.code ({ cls := "java/lang/StringBuilder", name := "length", desc := "()I" } : Jvm.MethodName) jdk_67_method_93_code (1 : Nat) (Option.some Jvm.ClassFile.FieldType.int)).before a0 Z = true := hw _ (List.mem_of_getElem? (i := 62) rfl)
theorem w57 {Z : State} {a0 : Array Value} (hw : ∀ d ∈ tables_1, d.before a0 Z = true) : (Jvm.Cond.methodLink "java/lang/String" (549 : Nat) ({ cls := "java/lang/AbstractStringBuilder", name := "length", desc := "()I" } : Jvm.MethodName)).before a0 Z = true := hw _ (List.mem_of_getElem? (i := 57) rfl)
theorem w60 {Z : State} {a0 : Array Value} (hw : ∀ d ∈ tables_1, d.before a0 Z = true) : (Jvm.Cond.selects "java/lang/StringBuilder" ({ cls := "java/lang/AbstractStringBuilder", name := "length", desc := "()I" } : Jvm.MethodName) ({ cls := "java/lang/StringBuilder", name := "length", desc := "()I" } : Jvm.MethodName)).before a0 Z = true := hw _ (List.mem_of_getElem? (i := 60) rfl)
theorem w58 {Z : State} {a0 : Array Value} (hw : ∀ d ∈ tables_1, d.before a0 Z = true) : (Jvm.Cond.declares ({ cls := "java/lang/AbstractStringBuilder", name := "length", desc := "()I" } : Jvm.MethodName)).before a0 Z = true := hw _ (List.mem_of_getElem? (i := 58) rfl)
theorem w61 {Z : State} {a0 : Array Value} (hw : ∀ d ∈ tables_1, d.before a0 Z = true) : (Jvm.Cond.instanceMethod ({ cls := "java/lang/StringBuilder", name := "length", desc := "()I" } : Jvm.MethodName)).before a0 Z = true := hw _ (List.mem_of_getElem? (i := 61) rfl)
theorem d6_13 : decode jdk_42_method_150_code 13 = .ok (.istore 4, 2) := by decide +kernel
theorem d6_15 : decode jdk_42_method_150_code 15 = .ok (.aload_n 1, 1) := by decide +kernel
theorem d6_16 : decode jdk_42_method_150_code 16 = .ok (.invokevirtual 1047, 3) := by decide +kernel
theorem d10_0 : decode jdk_68_method_68_code 0 = .ok (.getstatic 18, 3) := by decide +kernel
theorem d10_3 : decode jdk_68_method_68_code 3 = .ok (.ifCond .eq 14, 3) := by decide +kernel
theorem d10_6 : decode jdk_68_method_68_code 6 = .ok (.aload_n 0, 1) := by decide +kernel
theorem d10_7 : decode jdk_68_method_68_code 7 = .ok (.getfield 22, 3) := by decide +kernel
theorem d10_10 : decode jdk_68_method_68_code 10 = .ok (.ifCond .ne 7, 3) := by decide +kernel
theorem d10_13 : decode jdk_68_method_68_code 13 = .ok (.iconst 1, 1) := by decide +kernel
theorem d10_14 : decode jdk_68_method_68_code 14 = .ok (.goto 4, 3) := by decide +kernel
theorem d10_18 : decode jdk_68_method_68_code 18 = .ok (.ireturn, 1) := by decide +kernel
theorem w72 {Z : State} {a0 : Array Value} (hw : ∀ d ∈ tables_1, d.before a0 Z = true) : (Jvm.Cond.code ({ cls := "java/lang/AbstractStringBuilder", name := "isLatin1", desc := "()Z" } : Jvm.MethodName) jdk_68_method_68_code (1 : Nat) (Option.some Jvm.ClassFile.FieldType.boolean)).before a0 Z = true := hw _ (List.mem_of_getElem? (i := 72) rfl)
theorem pd_4 : parseMethodDescriptor "()Z" = some ⟨[], some .boolean⟩ := by decide +kernel
theorem w68 {Z : State} {a0 : Array Value} (hw : ∀ d ∈ tables_1, d.before a0 Z = true) : (Jvm.Cond.methodLink "java/lang/String" (1047 : Nat) ({ cls := "java/lang/AbstractStringBuilder", name := "isLatin1", desc := "()Z" } : Jvm.MethodName)).before a0 Z = true := hw _ (List.mem_of_getElem? (i := 68) rfl)
theorem w71 {Z : State} {a0 : Array Value} (hw : ∀ d ∈ tables_1, d.before a0 Z = true) : (Jvm.Cond.selects "java/lang/StringBuilder" ({ cls := "java/lang/AbstractStringBuilder", name := "isLatin1", desc := "()Z" } : Jvm.MethodName) ({ cls := "java/lang/AbstractStringBuilder", name := "isLatin1", desc := "()Z" } : Jvm.MethodName)).before a0 Z = true := hw _ (List.mem_of_getElem? (i := 71) rfl)
theorem w69 {Z : State} {a0 : Array Value} (hw : ∀ d ∈ tables_1, d.before a0 Z = true) : (Jvm.Cond.declares ({ cls := "java/lang/AbstractStringBuilder", name := "isLatin1", desc := "()Z" } : Jvm.MethodName)).before a0 Z = true := hw _ (List.mem_of_getElem? (i := 69) rfl)
theorem w70 {Z : State} {a0 : Array Value} (hw : ∀ d ∈ tables_1, d.before a0 Z = true) : (Jvm.Cond.instanceMethod ({ cls := "java/lang/AbstractStringBuilder", name := "isLatin1", desc := "()Z" } : Jvm.MethodName)).before a0 Z = true := hw _ (List.mem_of_getElem? (i := 70) rfl)
theorem d6_19 : decode jdk_42_method_150_code 19 = .ok (.ifCond .eq 22, 3) := by decide +kernel
theorem d6_22 : decode jdk_42_method_150_code 22 = .ok (.aload_n 0, 1) := by decide +kernel
theorem d6_23 : decode jdk_42_method_150_code 23 = .ok (.iconst 0, 1) := by decide +kernel
theorem d6_24 : decode jdk_42_method_150_code 24 = .ok (.putfield 15, 3) := by decide +kernel
theorem w73 {Z : State} {a0 : Array Value} (hw : ∀ d ∈ tables_1, d.before a0 Z = true) : (Jvm.Cond.fieldLink "java/lang/String" (15 : Nat) "java/lang/String" "coder" "B").before a0 Z = true := hw _ (List.mem_of_getElem? (i := 73) rfl)
theorem d6_27 : decode jdk_42_method_150_code 27 = .ok (.aload_n 0, 1) := by decide +kernel
theorem d6_28 : decode jdk_42_method_150_code 28 = .ok (.aload_n 3, 1) := by decide +kernel
theorem d6_29 : decode jdk_42_method_150_code 29 = .ok (.iconst 0, 1) := by decide +kernel
theorem d6_30 : decode jdk_42_method_150_code 30 = .ok (.iload 4, 2) := by decide +kernel
theorem d6_32 : decode jdk_42_method_150_code 32 = .ok (.invokestatic 54, 3) := by decide +kernel
theorem pn_java_util_Arrays : plainName "java/util/Arrays" = true := by first | (simp [plainName, overriddenIn]; done) | decide +kernel
theorem d11_0 : decode jdk_65_method_132_code 0 = .ok (.iload_n 1, 1) := by decide +kernel
theorem d11_1 : decode jdk_65_method_132_code 1 = .ok (.ifCond .ne 9, 3) := by decide +kernel
theorem d11_4 : decode jdk_65_method_132_code 4 = .ok (.iload_n 2, 1) := by decide +kernel
theorem d11_5 : decode jdk_65_method_132_code 5 = .ok (.aload_n 0, 1) := by decide +kernel
theorem d11_6 : decode jdk_65_method_132_code 6 = .ok (.arraylength, 1) := by decide +kernel
theorem d11_7 : decode jdk_65_method_132_code 7 = .ok (.if_icmp .eq 10, 3) := by decide +kernel
theorem d11_10 : decode jdk_65_method_132_code 10 = .ok (.aload_n 0, 1) := by decide +kernel
theorem d11_11 : decode jdk_65_method_132_code 11 = .ok (.iload_n 1, 1) := by decide +kernel
theorem d11_12 : decode jdk_65_method_132_code 12 = .ok (.iload_n 2, 1) := by decide +kernel
theorem d11_13 : decode jdk_65_method_132_code 13 = .ok (.invokestatic 339, 3) := by decide +kernel
theorem d12_0 : decode jdk_65_method_133_code 0 = .ok (.iload_n 1, 1) := by decide +kernel
theorem d12_1 : decode jdk_65_method_133_code 1 = .ok (.iload_n 2, 1) := by decide +kernel
theorem d12_2 : decode jdk_65_method_133_code 2 = .ok (.invokestatic 343, 3) := by decide +kernel
theorem d13_0 : decode jdk_65_method_131_code 0 = .ok (.iload_n 1, 1) := by decide +kernel
theorem d13_1 : decode jdk_65_method_131_code 1 = .ok (.iload_n 0, 1) := by decide +kernel
theorem d13_2 : decode jdk_65_method_131_code 2 = .ok (.if_icmp .ge 35, 3) := by decide +kernel
theorem d13_37 : decode jdk_65_method_131_code 37 = .ok (.return_, 1) := by decide +kernel
theorem w84 {Z : State} {a0 : Array Value} (hw : ∀ d ∈ tables_1, d.before a0 Z = true) : (Jvm.Cond.code ({ cls := "java/util/Arrays", name := "checkLength", desc := "(II)V" } : Jvm.MethodName) jdk_65_method_131_code (2 : Nat) (Option.none : Option Jvm.ClassFile.FieldType)).before a0 Z = true := hw _ (List.mem_of_getElem? (i := 84) rfl)
theorem w77 {Z : State} {a0 : Array Value} (hw : ∀ d ∈ tables_1, d.before a0 Z = true) : (Jvm.Cond.initialized "java/util/Arrays").before a0 Z = true := hw _ (List.mem_of_getElem? (i := 77) rfl)
theorem pd_5 : parseMethodDescriptor "(II)V" = some ⟨[.int, .int], none⟩ := by decide +kernel
theorem w82 {Z : State} {a0 : Array Value} (hw : ∀ d ∈ tables_1, d.before a0 Z = true) : (Jvm.Cond.methodLink "java/util/Arrays" (343 : Nat) ({ cls := "java/util/Arrays", name := "checkLength", desc := "(II)V" } : Jvm.MethodName)).before a0 Z = true := hw _ (List.mem_of_getElem? (i := 82) rfl)
theorem w83 {Z : State} {a0 : Array Value} (hw : ∀ d ∈ tables_1, d.before a0 Z = true) : (Jvm.Cond.static ({ cls := "java/util/Arrays", name := "checkLength", desc := "(II)V" } : Jvm.MethodName)).before a0 Z = true := hw _ (List.mem_of_getElem? (i := 83) rfl)
theorem d12_5 : decode jdk_65_method_133_code 5 = .ok (.iload_n 2, 1) := by decide +kernel
theorem d12_6 : decode jdk_65_method_133_code 6 = .ok (.iload_n 1, 1) := by decide +kernel
theorem d12_7 : decode jdk_65_method_133_code 7 = .ok (.isub, 1) := by decide +kernel
theorem d12_8 : decode jdk_65_method_133_code 8 = .ok (.istore_n 3, 1) := by decide +kernel
theorem d12_9 : decode jdk_65_method_133_code 9 = .ok (.iload_n 3, 1) := by decide +kernel
theorem d12_10 : decode jdk_65_method_133_code 10 = .ok (.newarray .byte, 2) := by decide +kernel
theorem d12_12 : decode jdk_65_method_133_code 12 = .ok (.astore 4, 2) := by decide +kernel
theorem d12_14 : decode jdk_65_method_133_code 14 = .ok (.aload_n 0, 1) := by decide +kernel
theorem d12_15 : decode jdk_65_method_133_code 15 = .ok (.iload_n 1, 1) := by decide +kernel
theorem d12_16 : decode jdk_65_method_133_code 16 = .ok (.aload 4, 2) := by decide +kernel
theorem d12_18 : decode jdk_65_method_133_code 18 = .ok (.iconst 0, 1) := by decide +kernel
theorem d12_19 : decode jdk_65_method_133_code 19 = .ok (.aload_n 0, 1) := by decide +kernel
theorem d12_20 : decode jdk_65_method_133_code 20 = .ok (.arraylength, 1) := by decide +kernel
theorem d12_21 : decode jdk_65_method_133_code 21 = .ok (.iload_n 1, 1) := by decide +kernel
theorem d12_22 : decode jdk_65_method_133_code 22 = .ok (.isub, 1) := by decide +kernel
theorem d12_23 : decode jdk_65_method_133_code 23 = .ok (.iload_n 3, 1) := by decide +kernel
theorem d12_24 : decode jdk_65_method_133_code 24 = .ok (.invokestatic 304, 3) := by decide +kernel
theorem d14_0 : decode jdk_29_method_69_code 0 = .ok (.iload_n 0, 1) := by decide +kernel
theorem d14_1 : decode jdk_29_method_69_code 1 = .ok (.iload_n 1, 1) := by decide +kernel
theorem d14_2 : decode jdk_29_method_69_code 2 = .ok (.if_icmp .gt 7, 3) := by decide +kernel
theorem d14_9 : decode jdk_29_method_69_code 9 = .ok (.iload_n 1, 1) := by decide +kernel
theorem d14_10 : decode jdk_29_method_69_code 10 = .ok (.ireturn, 1) := by decide +kernel
theorem w88 {Z : State} {a0 : Array Value} (hw : ∀ d ∈ tables_1, d.before a0 Z = true) : (Jvm.Cond.code ({ cls := "java/lang/Math", name := "min", desc := "(II)I" } : Jvm.MethodName) jdk_29_method_69_code (2 : Nat) (Option.some Jvm.ClassFile.FieldType.int)).before a0 Z = true := hw _ (List.mem_of_getElem? (i := 88) rfl)
theorem w87 {Z : State} {a0 : Array Value} (hw : ∀ d ∈ tables_1, d.before a0 Z = true) : (Jvm.Cond.initialized "java/lang/Math").before a0 Z = true := hw _ (List.mem_of_getElem? (i := 87) rfl)
theorem pd_6 : parseMethodDescriptor "(II)I" = some ⟨[.int, .int], some .int⟩ := by decide +kernel
theorem w85 {Z : State} {a0 : Array Value} (hw : ∀ d ∈ tables_1, d.before a0 Z = true) : (Jvm.Cond.methodLink "java/util/Arrays" (304 : Nat) ({ cls := "java/lang/Math", name := "min", desc := "(II)I" } : Jvm.MethodName)).before a0 Z = true := hw _ (List.mem_of_getElem? (i := 85) rfl)
theorem w86 {Z : State} {a0 : Array Value} (hw : ∀ d ∈ tables_1, d.before a0 Z = true) : (Jvm.Cond.static ({ cls := "java/lang/Math", name := "min", desc := "(II)I" } : Jvm.MethodName)).before a0 Z = true := hw _ (List.mem_of_getElem? (i := 86) rfl)
theorem d12_27 : decode jdk_65_method_133_code 27 = .ok (.invokestatic 150, 3) := by decide +kernel
theorem w89 {Z : State} {a0 : Array Value} (hw : ∀ d ∈ tables_1, d.before a0 Z = true) : (Jvm.Cond.methodLink "java/util/Arrays" (150 : Nat) ({ cls := "java/lang/System", name := "arraycopy", desc := "(Ljava/lang/Object;ILjava/lang/Object;II)V" } : Jvm.MethodName)).before a0 Z = true := hw _ (List.mem_of_getElem? (i := 89) rfl)
theorem w92 {Z : State} {a0 : Array Value} (hw : ∀ d ∈ tables_1, d.before a0 Z = true) : (Jvm.Cond.native ({ cls := "java/lang/System", name := "arraycopy", desc := "(Ljava/lang/Object;ILjava/lang/Object;II)V" } : Jvm.MethodName)).before a0 Z = true := hw _ (List.mem_of_getElem? (i := 92) rfl)
theorem w90 {Z : State} {a0 : Array Value} (hw : ∀ d ∈ tables_1, d.before a0 Z = true) : (Jvm.Cond.static ({ cls := "java/lang/System", name := "arraycopy", desc := "(Ljava/lang/Object;ILjava/lang/Object;II)V" } : Jvm.MethodName)).before a0 Z = true := hw _ (List.mem_of_getElem? (i := 90) rfl)
theorem w91 {Z : State} {a0 : Array Value} (hw : ∀ d ∈ tables_1, d.before a0 Z = true) : (Jvm.Cond.initialized "java/lang/System").before a0 Z = true := hw _ (List.mem_of_getElem? (i := 91) rfl)
theorem d12_30 : decode jdk_65_method_133_code 30 = .ok (.aload 4, 2) := by decide +kernel
theorem d12_32 : decode jdk_65_method_133_code 32 = .ok (.areturn, 1) := by decide +kernel
theorem w81 {Z : State} {a0 : Array Value} (hw : ∀ d ∈ tables_1, d.before a0 Z = true) : (Jvm.Cond.code ({ cls := "java/util/Arrays", name := "copyOfRangeByte", desc := "([BII)[B" } : Jvm.MethodName) jdk_65_method_133_code (5 : Nat) (Option.some (Jvm.ClassFile.FieldType.array Jvm.ClassFile.FieldType.byte))).before a0 Z = true := hw _ (List.mem_of_getElem? (i := 81) rfl)
theorem pd_7 : parseMethodDescriptor "([BII)[B" = some ⟨[(.array .byte), .int, .int], some (.array .byte)⟩ := by decide +kernel
theorem w79 {Z : State} {a0 : Array Value} (hw : ∀ d ∈ tables_1, d.before a0 Z = true) : (Jvm.Cond.methodLink "java/util/Arrays" (339 : Nat) ({ cls := "java/util/Arrays", name := "copyOfRangeByte", desc := "([BII)[B" } : Jvm.MethodName)).before a0 Z = true := hw _ (List.mem_of_getElem? (i := 79) rfl)
theorem w80 {Z : State} {a0 : Array Value} (hw : ∀ d ∈ tables_1, d.before a0 Z = true) : (Jvm.Cond.static ({ cls := "java/util/Arrays", name := "copyOfRangeByte", desc := "([BII)[B" } : Jvm.MethodName)).before a0 Z = true := hw _ (List.mem_of_getElem? (i := 80) rfl)
theorem d11_16 : decode jdk_65_method_132_code 16 = .ok (.areturn, 1) := by decide +kernel
theorem w78 {Z : State} {a0 : Array Value} (hw : ∀ d ∈ tables_1, d.before a0 Z = true) : (Jvm.Cond.code ({ cls := "java/util/Arrays", name := "copyOfRange", desc := "([BII)[B" } : Jvm.MethodName) jdk_65_method_132_code (3 : Nat) (Option.some (Jvm.ClassFile.FieldType.array Jvm.ClassFile.FieldType.byte))).before a0 Z = true := hw _ (List.mem_of_getElem? (i := 78) rfl)
theorem w75 {Z : State} {a0 : Array Value} (hw : ∀ d ∈ tables_1, d.before a0 Z = true) : (Jvm.Cond.methodLink "java/lang/String" (54 : Nat) ({ cls := "java/util/Arrays", name := "copyOfRange", desc := "([BII)[B" } : Jvm.MethodName)).before a0 Z = true := hw _ (List.mem_of_getElem? (i := 75) rfl)
theorem w76 {Z : State} {a0 : Array Value} (hw : ∀ d ∈ tables_1, d.before a0 Z = true) : (Jvm.Cond.static ({ cls := "java/util/Arrays", name := "copyOfRange", desc := "([BII)[B" } : Jvm.MethodName)).before a0 Z = true := hw _ (List.mem_of_getElem? (i := 76) rfl)
theorem d6_35 : decode jdk_42_method_150_code 35 = .ok (.putfield 9, 3) := by decide +kernel
theorem w93 {Z : State} {a0 : Array Value} (hw : ∀ d ∈ tables_1, d.before a0 Z = true) : (Jvm.Cond.fieldLink "java/lang/String" (9 : Nat) "java/lang/String" "value" "[B").before a0 Z = true := hw _ (List.mem_of_getElem? (i := 93) rfl)
theorem d6_38 : decode jdk_42_method_150_code 38 = .ok (.goto 59, 3) := by decide +kernel
theorem d6_97 : decode jdk_42_method_150_code 97 = .ok (.return_, 1) := by decide +kernel
theorem w50 {Z : State} {a0 : Array Value} (hw : ∀ d ∈ tables_1, d.before a0 Z = true) : (Jvm.Cond.code ({ cls := "java/lang/String", name := "<init>", desc := "(Ljava/lang/AbstractStringBuilder;Ljava/lang/Void;)V" } : Jvm.MethodName) jdk_42_method_150_code (5 : Nat) (Option.none : Option Jvm.ClassFile.FieldType)).before a0 Z = true := hw _ (List.mem_of_getElem? (i := 50) rfl)
theorem pd_8 : parseMethodDescriptor "(Ljava/lang/AbstractStringBuilder;Ljava/lang/Void;)V" = some ⟨[(.object "java/lang/AbstractStringBuilder"), (.object "java/lang/Void")], none⟩ := by decide +kernel
theorem w48 {Z : State} {a0 : Array Value} (hw : ∀ d ∈ tables_1, d.before a0 Z = true) : (Jvm.Cond.methodLink "java/lang/String" (489 : Nat) ({ cls := "java/lang/String", name := "<init>", desc := "(Ljava/lang/AbstractStringBuilder;Ljava/lang/Void;)V" } : Jvm.MethodName)).before a0 Z = true := hw _ (List.mem_of_getElem? (i := 48) rfl)
theorem w49 {Z : State} {a0 : Array Value} (hw : ∀ d ∈ tables_1, d.before a0 Z = true) : (Jvm.Cond.instanceMethod ({ cls := "java/lang/String", name := "<init>", desc := "(Ljava/lang/AbstractStringBuilder;Ljava/lang/Void;)V" } : Jvm.MethodName)).before a0 Z = true := hw _ (List.mem_of_getElem? (i := 49) rfl)
theorem d5_6 : decode jdk_42_method_53_code 6 = .ok (.return_, 1) := by decide +kernel
theorem w47 {Z : State} {a0 : Array Value} (hw : ∀ d ∈ tables_1, d.before a0 Z = true) : (Jvm.Cond.code ({ cls := "java/lang/String", name := "<init>", desc := "(Ljava/lang/StringBuilder;)V" } : Jvm.MethodName) jdk_42_method_53_code (2 : Nat) (Option.none : Option Jvm.ClassFile.FieldType)).before a0 Z = true := hw _ (List.mem_of_getElem? (i := 47) rfl)
theorem pd_9 : parseMethodDescriptor "(Ljava/lang/StringBuilder;)V" = some ⟨[(.object "java/lang/StringBuilder")], none⟩ := by decide +kernel
theorem w44 {Z : State} {a0 : Array Value} (hw : ∀ d ∈ tables_1, d.before a0 Z = true) : (Jvm.Cond.methodLink "java/lang/StringBuilder" (137 : Nat) ({ cls := "java/lang/String", name := "<init>", desc := "(Ljava/lang/StringBuilder;)V" } : Jvm.MethodName)).before a0 Z = true := hw _ (List.mem_of_getElem? (i := 44) rfl)
theorem w45 {Z : State} {a0 : Array Value} (hw : ∀ d ∈ tables_1, d.before a0 Z = true) : (Jvm.Cond.instanceMethod ({ cls := "java/lang/String", name := "<init>", desc := "(Ljava/lang/StringBuilder;)V" } : Jvm.MethodName)).before a0 Z = true := hw _ (List.mem_of_getElem? (i := 45) rfl)
theorem d4_8 : decode jdk_67_method_42_code 8 = .ok (.areturn, 1) := by decide +kernel
theorem w41 {Z : State} {a0 : Array Value} (hw : ∀ d ∈ tables_1, d.before a0 Z = true) : (Jvm.Cond.code ({ cls := "java/lang/StringBuilder", name := "toString", desc := "()Ljava/lang/String;" } : Jvm.MethodName) jdk_67_method_42_code (1 : Nat) (Option.some (Jvm.ClassFile.FieldType.object "java/lang/String"))).before a0 Z = true := hw _ (List.mem_of_getElem? (i := 41) rfl)
theorem pd_10 : parseMethodDescriptor "()Ljava/lang/String;" = some ⟨[], some (.object "java/lang/String")⟩ := by decide +kernel
theorem w37 {Z : State} {a0 : Array Value} (hw : ∀ d ∈ tables_1, d.before a0 Z = true) : (Jvm.Cond.methodLink "com/example/adjoinery/adjoinery/JsonWriter" (44 : Nat) ({ cls := "java/lang/StringBuilder", name := "toString", desc := "()Ljava/lang/String;" } : Jvm.MethodName)).before a0 Z = true := hw _ (List.mem_of_getElem? (i := 37) rfl)
theorem w40 {Z : State} {a0 : Array Value} (hw : ∀ d ∈ tables_1, d.before a0 Z = true) : (Jvm.Cond.selects "java/lang/StringBuilder" ({ cls := "java/lang/StringBuilder", name := "toString", desc := "()Ljava/lang/String;" } : Jvm.MethodName) ({ cls := "java/lang/StringBuilder", name := "toString", desc := "()Ljava/lang/String;" } : Jvm.MethodName)).before a0 Z = true := hw _ (List.mem_of_getElem? (i := 40) rfl)
theorem w38 {Z : State} {a0 : Array Value} (hw : ∀ d ∈ tables_1, d.before a0 Z = true) : (Jvm.Cond.declares ({ cls := "java/lang/StringBuilder", name := "toString", desc := "()Ljava/lang/String;" } : Jvm.MethodName)).before a0 Z = true := hw _ (List.mem_of_getElem? (i := 38) rfl)
theorem w39 {Z : State} {a0 : Array Value} (hw : ∀ d ∈ tables_1, d.before a0 Z = true) : (Jvm.Cond.instanceMethod ({ cls := "java/lang/StringBuilder", name := "toString", desc := "()Ljava/lang/String;" } : Jvm.MethodName)).before a0 Z = true := hw _ (List.mem_of_getElem? (i := 39) rfl)
theorem d3_7 : decode prog_33_method_10_code 7 = .ok (.astore_n 1, 1) := by decide +kernel
theorem d3_8 : decode prog_33_method_10_code 8 = .ok (.aload_n 0, 1) := by decide +kernel
theorem d3_9 : decode prog_33_method_10_code 9 = .ok (.getfield 10, 3) := by decide +kernel
theorem d3_12 : decode prog_33_method_10_code 12 = .ok (.iconst 0, 1) := by decide +kernel
theorem d3_13 : decode prog_33_method_10_code 13 = .ok (.invokevirtual 48, 3) := by decide +kernel
theorem d15_0 : decode jdk_67_method_89_code 0 = .ok (.aload_n 0, 1) := by decide +kernel
theorem d15_1 : decode jdk_67_method_89_code 1 = .ok (.iload_n 1, 1) := by decide +kernel
theorem d15_2 : decode jdk_67_method_89_code 2 = .ok (.invokespecial 333, 3) := by decide +kernel
theorem d16_0 : decode jdk_68_method_13_code 0 = .ok (.iload_n 1, 1) := by decide +kernel
theorem d16_1 : decode jdk_68_method_13_code 1 = .ok (.ifCond .ge 12, 3) := by decide +kernel
theorem d16_13 : decode jdk_68_method_13_code 13 = .ok (.aload_n 0, 1) := by decide +kernel
theorem d16_14 : decode jdk_68_method_13_code 14 = .ok (.iload_n 1, 1) := by decide +kernel
theorem d16_15 : decode jdk_68_method_13_code 15 = .ok (.invokevirtual 100, 3) := by decide +kernel
theorem d17_0 : decode jdk_68_method_9_code 0 = .ok (.aload_n 0, 1) := by decide +kernel
theorem d17_1 : decode jdk_68_method_9_code 1 = .ok (.getfield 15, 3) := by decide +kernel
theorem d17_4 : decode jdk_68_method_9_code 4 = .ok (.arraylength, 1) := by decide +kernel
theorem d17_5 : decode jdk_68_method_9_code 5 = .ok (.aload_n 0, 1) := by decide +kernel
theorem d17_6 : decode jdk_68_method_9_code 6 = .ok (.getfield 22, 3) := by decide +kernel
theorem d17_9 : decode jdk_68_method_9_code 9 = .ok (.ishr, 1) := by decide +kernel
theorem d17_10 : decode jdk_68_method_9_code 10 = .ok (.istore_n 2, 1) := by decide +kernel
theorem d17_11 : decode jdk_68_method_9_code 11 = .ok (.iload_n 1, 1) := by decide +kernel
theorem d17_12 : decode jdk_68_method_9_code 12 = .ok (.iload_n 2, 1) := by decide +kernel
theorem d17_13 : decode jdk_68_method_9_code 13 = .ok (.isub, 1) := by decide +kernel
theorem d17_14 : decode jdk_68_method_9_code 14 = .ok (.ifCond .le 24, 3) := by decide +kernel
theorem d17_38 : decode jdk_68_method_9_code 38 = .ok (.return_, 1) := by decide +kernel
theorem w108 {Z : State} {a0 : Array Value} (hw : ∀ d ∈ tables_1, d.before a0 Z = true) : (Jvm.Cond.code ({ cls := "java/lang/AbstractStringBuilder", name := "ensureCapacityInternal", desc := "(I)V" } : Jvm.MethodName) jdk_68_method_9_code (3 : Nat) (Option.none : Option Jvm.ClassFile.FieldType)).before a0 Z = true := hw _ (List.mem_of_getElem? (i := 108) rfl)
theorem w104 {Z : State} {a0 : Array Value} (hw : ∀ d ∈ tables_1, d.before a0 Z = true) : (Jvm.Cond.methodLink "java/lang/AbstractStringBuilder" (100 : Nat) ({ cls := "java/lang/AbstractStringBuilder", name := "ensureCapacityInternal", desc := "(I)V" } : Jvm.MethodName)).before a0 Z = true := hw _ (List.mem_of_getElem? (i := 104) rfl)
theorem w106 {Z : State} {a0 : Array Value} (hw : ∀ d ∈ tables_1, d.before a0 Z = true) : (Jvm.Cond.privateMethod ({ cls := "java/lang/AbstractStringBuilder", name := "ensureCapacityInternal", desc := "(I)V" } : Jvm.MethodName)).before a0 Z = true := hw _ (List.mem_of_getElem? (i := 106) rfl)
theorem w105 {Z : State} {a0 : Array Value} (hw : ∀ d ∈ tables_1, d.before a0 Z = true) : (Jvm.Cond.instanceMethod ({ cls := "java/lang/AbstractStringBuilder", name := "ensureCapacityInternal", desc := "(I)V" } : Jvm.MethodName)).before a0 Z = true := hw _ (List.mem_of_getElem? (i := 105) rfl)
theorem d16_18 : decode jdk_68_method_13_code 18 = .ok (.aload_n 0, 1) := by decide +kernel
theorem d16_19 : decode jdk_68_method_13_code 19 = .ok (.getfield 79, 3) := by decide +kernel
theorem d16_22 : decode jdk_68_method_13_code 22 = .ok (.iload_n 1, 1) := by decide +kernel
theorem d16_23 : decode jdk_68_method_13_code 23 = .ok (.if_icmp .ge 40, 3) := by decide +kernel
theorem d16_63 : decode jdk_68_method_13_code 63 = .ok (.aload_n 0, 1) := by decide +kernel
theorem d16_64 : decode jdk_68_method_13_code 64 = .ok (.getfield 79, 3) := by decide +kernel
theorem d16_67 : decode jdk_68_method_13_code 67 = .ok (.iload_n 1, 1) := by decide +kernel
theorem d16_68 : decode jdk_68_method_13_code 68 = .ok (.if_icmp .le 8, 3) := by decide +kernel
theorem d16_76 : decode jdk_68_method_13_code 76 = .ok (.aload_n 0, 1) := by decide +kernel
theorem d16_77 : decode jdk_68_method_13_code 77 = .ok (.iload_n 1, 1) := by decide +kernel
theorem d16_78 : decode jdk_68_method_13_code 78 = .ok (.putfield 79, 3) := by decide +kernel
theorem d16_81 : decode jdk_68_method_13_code 81 = .ok (.return_, 1) := by decide +kernel
theorem w103 {Z : State} {a0 : Array Value} (hw : ∀ d ∈ tables_1, d.before a0 Z = true) : (Jvm.Cond.code ({ cls := "java/lang/AbstractStringBuilder", name := "setLength", desc := "(I)V" } : Jvm.MethodName) jdk_68_method_13_code (2 : Nat) (Option.none : Option Jvm.ClassFile.FieldType)).before a0 Z = true := hw _ (List.mem_of_getElem? (i := 103) rfl)
theorem w100 {Z : State} {a0 : Array Value} (hw : ∀ d ∈ tables_1, d.before a0 Z = true) : (Jvm.Cond.methodLink "java/lang/StringBuilder" (333 : Nat) ({ cls := "java/lang/AbstractStringBuilder", name := "setLength", desc := "(I)V" } : Jvm.MethodName)).before a0 Z = true := hw _ (List.mem_of_getElem? (i := 100) rfl)
theorem w101 {Z : State} {a0 : Array Value} (hw : ∀ d ∈ tables_1, d.before a0 Z = true) : (Jvm.Cond.instanceMethod ({ cls := "java/lang/AbstractStringBuilder", name := "setLength", desc := "(I)V" } : Jvm.MethodName)).before a0 Z = true := hw _ (List.mem_of_getElem? (i := 101) rfl)
theorem d15_5 : decode jdk_67_method_89_code 5 = .ok (.return_, 1) := by decide +kernel
theorem w99 {Z : State} {a0 : Array Value} (hw : ∀ d ∈ tables_1, d.before a0 Z = true) : (Jvm.Cond.code ({ cls := "java/lang/StringBuilder", name := "setLength", desc := "(I)V" } : Jvm.MethodName) jdk_67_method_89_code (2 : Nat) (Option.none : Option Jvm.ClassFile.FieldType)).before a0 Z = true := hw _ (List.mem_of_getElem? (i := 99) rfl)
theorem w95 {Z : State} {a0 : Array Value} (hw : ∀ d ∈ tables_1, d.before a0 Z = true) : (Jvm.Cond.methodLink "com/example/adjoinery/adjoinery/JsonWriter" (48 : Nat) ({ cls := "java/lang/StringBuilder", name := "setLength", desc := "(I)V" } : Jvm.MethodName)).before a0 Z = true := hw _ (List.mem_of_getElem? (i := 95) rfl)
theorem w98 {Z : State} {a0 : Array Value} (hw : ∀ d ∈ tables_1, d.before a0 Z = true) : (Jvm.Cond.selects "java/lang/StringBuilder" ({ cls := "java/lang/StringBuilder", name := "setLength", desc := "(I)V" } : Jvm.MethodName) ({ cls := "java/lang/StringBuilder", name := "setLength", desc := "(I)V" } : Jvm.MethodName)).before a0 Z = true := hw _ (List.mem_of_getElem? (i := 98) rfl)
theorem w96 {Z : State} {a0 : Array Value} (hw : ∀ d ∈ tables_1, d.before a0 Z = true) : (Jvm.Cond.declares ({ cls := "java/lang/StringBuilder", name := "setLength", desc := "(I)V" } : Jvm.MethodName)).before a0 Z = true := hw _ (List.mem_of_getElem? (i := 96) rfl)
theorem w97 {Z : State} {a0 : Array Value} (hw : ∀ d ∈ tables_1, d.before a0 Z = true) : (Jvm.Cond.instanceMethod ({ cls := "java/lang/StringBuilder", name := "setLength", desc := "(I)V" } : Jvm.MethodName)).before a0 Z = true := hw _ (List.mem_of_getElem? (i := 97) rfl)
theorem d3_16 : decode prog_33_method_10_code 16 = .ok (.aload_n 1, 1) := by decide +kernel
theorem d3_17 : decode prog_33_method_10_code 17 = .ok (.areturn, 1) := by decide +kernel
theorem w36 {Z : State} {a0 : Array Value} (hw : ∀ d ∈ tables_1, d.before a0 Z = true) : (Jvm.Cond.code ({ cls := "com/example/adjoinery/adjoinery/JsonWriter", name := "drain", desc := "()Ljava/lang/String;" } : Jvm.MethodName) prog_33_method_10_code (2 : Nat) (Option.some (Jvm.ClassFile.FieldType.object "java/lang/String"))).before a0 Z = true := hw _ (List.mem_of_getElem? (i := 36) rfl)
theorem w32 {Z : State} {a0 : Array Value} (hw : ∀ d ∈ tables_1, d.before a0 Z = true) : (Jvm.Cond.methodLink "com/example/adjoinery/adjoinery/JsonWriterDrainPinLaw" (11 : Nat) ({ cls := "com/example/adjoinery/adjoinery/JsonWriter", name := "drain", desc := "()Ljava/lang/String;" } : Jvm.MethodName)).before a0 Z = true := hw _ (List.mem_of_getElem? (i := 32) rfl)
theorem w35 {Z : State} {a0 : Array Value} (hw : ∀ d ∈ tables_1, d.before a0 Z = true) : (Jvm.Cond.selects "com/example/adjoinery/adjoinery/JsonWriter" ({ cls := "com/example/adjoinery/adjoinery/JsonWriter", name := "drain", desc := "()Ljava/lang/String;" } : Jvm.MethodName) ({ cls := "com/example/adjoinery/adjoinery/JsonWriter", name := "drain", desc := "()Ljava/lang/String;" } : Jvm.MethodName)).before a0 Z = true := hw _ (List.mem_of_getElem? (i := 35) rfl)
theorem w33 {Z : State} {a0 : Array Value} (hw : ∀ d ∈ tables_1, d.before a0 Z = true) : (Jvm.Cond.declares ({ cls := "com/example/adjoinery/adjoinery/JsonWriter", name := "drain", desc := "()Ljava/lang/String;" } : Jvm.MethodName)).before a0 Z = true := hw _ (List.mem_of_getElem? (i := 33) rfl)
theorem w34 {Z : State} {a0 : Array Value} (hw : ∀ d ∈ tables_1, d.before a0 Z = true) : (Jvm.Cond.instanceMethod ({ cls := "com/example/adjoinery/adjoinery/JsonWriter", name := "drain", desc := "()Ljava/lang/String;" } : Jvm.MethodName)).before a0 Z = true := hw _ (List.mem_of_getElem? (i := 34) rfl)
theorem d18_0 : decode prog_33_method_4_code 0 = .ok (.aload_n 0, 1) := by decide +kernel
theorem d18_1 : decode prog_33_method_4_code 1 = .ok (.bipush 91, 2) := by decide +kernel
theorem d18_3 : decode prog_33_method_4_code 3 = .ok (.invokevirtual 16, 3) := by decide +kernel
theorem d19_0 : decode prog_33_method_11_code 0 = .ok (.aload_n 0, 1) := by decide +kernel
theorem d19_1 : decode prog_33_method_11_code 1 = .ok (.invokevirtual 23, 3) := by decide +kernel
theorem d20_0 : decode prog_33_method_13_code 0 = .ok (.aload_n 0, 1) := by decide +kernel
theorem d20_1 : decode prog_33_method_13_code 1 = .ok (.getfield 34, 3) := by decide +kernel
theorem w122 {Z : State} {a0 : Array Value} (hw : ∀ d ∈ tables_1, d.before a0 Z = true) : (Jvm.Cond.fieldLink "com/example/adjoinery/adjoinery/JsonWriter" (34 : Nat) "com/example/adjoinery/adjoinery/JsonWriter" "afterValue" "Z").before a0 Z = true := hw _ (List.mem_of_getElem? (i := 122) rfl)
theorem d20_4 : decode prog_33_method_13_code 4 = .ok (.ifCond .eq 13, 3) := by decide +kernel
theorem d20_17 : decode prog_33_method_13_code 17 = .ok (.return_, 1) := by decide +kernel
theorem w121 {Z : State} {a0 : Array Value} (hw : ∀ d ∈ tables_1, d.before a0 Z = true) : (Jvm.Cond.code ({ cls := "com/example/adjoinery/adjoinery/JsonWriter", name := "separate", desc := "()V" } : Jvm.MethodName) prog_33_method_13_code (1 : Nat) (Option.none : Option Jvm.ClassFile.FieldType)).before a0 Z = true := hw _ (List.mem_of_getElem? (i := 121) rfl)
theorem w118 {Z : State} {a0 : Array Value} (hw : ∀ d ∈ tables_1, d.before a0 Z = true) : (Jvm.Cond.methodLink "com/example/adjoinery/adjoinery/JsonWriter" (23 : Nat) ({ cls := "com/example/adjoinery/adjoinery/JsonWriter", name := "separate", desc := "()V" } : Jvm.MethodName)).before a0 Z = true := hw _ (List.mem_of_getElem? (i := 118) rfl)
theorem w120 {Z : State} {a0 : Array Value} (hw : ∀ d ∈ tables_1, d.before a0 Z = true) : (Jvm.Cond.privateMethod ({ cls := "com/example/adjoinery/adjoinery/JsonWriter", name := "separate", desc := "()V" } : Jvm.MethodName)).before a0 Z = true := hw _ (List.mem_of_getElem? (i := 120) rfl)
theorem w119 {Z : State} {a0 : Array Value} (hw : ∀ d ∈ tables_1, d.before a0 Z = true) : (Jvm.Cond.instanceMethod ({ cls := "com/example/adjoinery/adjoinery/JsonWriter", name := "separate", desc := "()V" } : Jvm.MethodName)).before a0 Z = true := hw _ (List.mem_of_getElem? (i := 119) rfl)
theorem d19_4 : decode prog_33_method_11_code 4 = .ok (.aload_n 0, 1) := by decide +kernel
theorem d19_5 : decode prog_33_method_11_code 5 = .ok (.getfield 10, 3) := by decide +kernel
theorem d19_8 : decode prog_33_method_11_code 8 = .ok (.iload_n 1, 1) := by decide +kernel
theorem d19_9 : decode prog_33_method_11_code 9 = .ok (.invokevirtual 30, 3) := by decide +kernel
theorem d21_0 : decode jdk_67_method_14_code 0 = .ok (.aload_n 0, 1) := by decide +kernel
theorem d21_1 : decode jdk_67_method_14_code 1 = .ok (.iload_n 1, 1) := by decide +kernel
theorem d21_2 : decode jdk_67_method_14_code 2 = .ok (.invokespecial 50, 3) := by decide +kernel
theorem d22_0 : decode jdk_68_method_31_code 0 = .ok (.aload_n 0, 1) := by decide +kernel
theorem d22_1 : decode jdk_68_method_31_code 1 = .ok (.aload_n 0, 1) := by decide +kernel
theorem d22_2 : decode jdk_68_method_31_code 2 = .ok (.getfield 79, 3) := by decide +kernel
theorem d22_5 : decode jdk_68_method_31_code 5 = .ok (.iconst 1, 1) := by decide +kernel
theorem d22_6 : decode jdk_68_method_31_code 6 = .ok (.iadd, 1) := by decide +kernel
theorem d22_7 : decode jdk_68_method_31_code 7 = .ok (.invokevirtual 100, 3) := by decide +kernel
theorem d22_10 : decode jdk_68_method_31_code 10 = .ok (.aload_n 0, 1) := by decide +kernel
theorem d22_11 : decode jdk_68_method_31_code 11 = .ok (.invokevirtual 83, 3) := by decide +kernel
theorem w133 {Z : State} {a0 : Array Value} (hw : ∀ d ∈ tables_1, d.before a0 Z = true) : (Jvm.Cond.methodLink "java/lang/AbstractStringBuilder" (83 : Nat) ({ cls := "java/lang/AbstractStringBuilder", name := "isLatin1", desc := "()Z" } : Jvm.MethodName)).before a0 Z = true := hw _ (List.mem_of_getElem? (i := 133) rfl)
theorem d22_14 : decode jdk_68_method_31_code 14 = .ok (.ifCond .eq 31, 3) := by decide +kernel
theorem d22_17 : decode jdk_68_method_31_code 17 = .ok (.iload_n 1, 1) := by decide +kernel
theorem d22_18 : decode jdk_68_method_31_code 18 = .ok (.invokestatic 191, 3) := by decide +kernel
theorem pn_java_lang_StringLatin1 : plainName "java/lang/StringLatin1" = true := by first | (simp [plainName, overriddenIn]; done) | decide +kernel
theorem d23_0 : decode jdk_43_method_3_code 0 = .ok (.iload_n 0, 1) := by decide +kernel
theorem d23_1 : decode jdk_43_method_3_code 1 = .ok (.sipush 255, 3) := by decide +kernel
theorem d23_4 : decode jdk_43_method_3_code 4 = .ok (.if_icmp .gt 7, 3) := by decide +kernel
theorem d23_7 : decode jdk_43_method_3_code 7 = .ok (.iconst 1, 1) := by decide +kernel
theorem d23_8 : decode jdk_43_method_3_code 8 = .ok (.goto 4, 3) := by decide +kernel
theorem d23_12 : decode jdk_43_method_3_code 12 = .ok (.ireturn, 1) := by decide +kernel
theorem w137 {Z : State} {a0 : Array Value} (hw : ∀ d ∈ tables_1, d.before a0 Z = true) : (Jvm.Cond.code ({ cls := "java/lang/StringLatin1", name := "canEncode", desc := "(C)Z" } : Jvm.MethodName) jdk_43_method_3_code (1 : Nat) (Option.some Jvm.ClassFile.FieldType.boolean)).before a0 Z = true := hw _ (List.mem_of_getElem? (i := 137) rfl)
theorem w136 {Z : State} {a0 : Array Value} (hw : ∀ d ∈ tables_1, d.before a0 Z = true) : (Jvm.Cond.initialized "java/lang/StringLatin1").before a0 Z = true := hw _ (List.mem_of_getElem? (i := 136) rfl)
theorem pd_11 : parseMethodDescriptor "(C)Z" = some ⟨[.char], some .boolean⟩ := by decide +kernel
theorem w134 {Z : State} {a0 : Array Value} (hw : ∀ d ∈ tables_1, d.before a0 Z = true) : (Jvm.Cond.methodLink "java/lang/AbstractStringBuilder" (191 : Nat) ({ cls := "java/lang/StringLatin1", name := "canEncode", desc := "(C)Z" } : Jvm.MethodName)).before a0 Z = true := hw _ (List.mem_of_getElem? (i := 134) rfl)
theorem w135 {Z : State} {a0 : Array Value} (hw : ∀ d ∈ tables_1, d.before a0 Z = true) : (Jvm.Cond.static ({ cls := "java/lang/StringLatin1", name := "canEncode", desc := "(C)Z" } : Jvm.MethodName)).before a0 Z = true := hw _ (List.mem_of_getElem? (i := 135) rfl)
theorem d22_21 : decode jdk_68_method_31_code 21 = .ok (.ifCond .eq 24, 3) := by decide +kernel
theorem d22_24 : decode jdk_68_method_31_code 24 = .ok (.aload_n 0, 1) := by decide +kernel
theorem d22_25 : decode jdk_68_method_31_code 25 = .ok (.getfield 15, 3) := by decide +kernel
theorem d22_28 : decode jdk_68_method_31_code 28 = .ok (.aload_n 0, 1) := by decide +kernel
theorem d22_29 : decode jdk_68_method_31_code 29 = .ok (.dup, 1) := by decide +kernel
theorem d22_30 : decode jdk_68_method_31_code 30 = .ok (.getfield 79, 3) := by decide +kernel
theorem d22_33 : decode jdk_68_method_31_code 33 = .ok (.dup_x1, 1) := by decide +kernel
theorem d22_34 : decode jdk_68_method_31_code 34 = .ok (.iconst 1, 1) := by decide +kernel
theorem d22_35 : decode jdk_68_method_31_code 35 = .ok (.iadd, 1) := by decide +kernel
theorem d22_36 : decode jdk_68_method_31_code 36 = .ok (.putfield 79, 3) := by decide +kernel
theorem d22_39 : decode jdk_68_method_31_code 39 = .ok (.iload_n 1, 1) := by decide +kernel
theorem d22_40 : decode jdk_68_method_31_code 40 = .ok (.i2b, 1) := by decide +kernel
theorem d22_41 : decode jdk_68_method_31_code 41 = .ok (.bastore, 1) := by decide +kernel
theorem d22_42 : decode jdk_68_method_31_code 42 = .ok (.goto 33, 3) := by decide +kernel
theorem d22_75 : decode jdk_68_method_31_code 75 = .ok (.aload_n 0, 1) := by decide +kernel
theorem d22_76 : decode jdk_68_method_31_code 76 = .ok (.areturn, 1) := by decide +kernel
theorem w132 {Z : State} {a0 : Array Value} (hw : ∀ d ∈ tables_1, d.before a0 Z = true) : (Jvm.Cond.code ({ cls := "java/lang/AbstractStringBuilder", name := "append", desc := "(C)Ljava/lang/AbstractStringBuilder;" } : Jvm.MethodName) jdk_68_method_31_code (2 : Nat) (Option.some (Jvm.ClassFile.FieldType.object "java/lang/AbstractStringBuilder"))).before a0 Z = true := hw _ (List.mem_of_getElem? (i := 132) rfl)
theorem pd_12 : parseMethodDescriptor "(C)Ljava/lang/AbstractStringBuilder;" = some ⟨[.char], some (.object "java/lang/AbstractStringBuilder")⟩ := by decide +kernel
theorem w129 {Z : State} {a0 : Array Value} (hw : ∀ d ∈ tables_1, d.before a0 Z = true) : (Jvm.Cond.methodLink "java/lang/StringBuilder" (50 : Nat) ({ cls := "java/lang/AbstractStringBuilder", name := "append", desc := "(C)Ljava/lang/AbstractStringBuilder;" } : Jvm.MethodName)).before a0 Z = true := hw _ (List.mem_of_getElem? (i := 129) rfl)
theorem w130 {Z : State} {a0 : Array Value} (hw : ∀ d ∈ tables_1, d.before a0 Z = true) : (Jvm.Cond.instanceMethod ({ cls := "java/lang/AbstractStringBuilder", name := "append", desc := "(C)Ljava/lang/AbstractStringBuilder;" } : Jvm.MethodName)).before a0 Z = true := hw _ (List.mem_of_getElem? (i := 130) rfl)
theorem d21_5 : decode jdk_67_method_14_code 5 = .ok (.pop, 1) := by decide +kernel
theorem d21_6 : decode jdk_67_method_14_code 6 = .ok (.aload_n 0, 1) := by decide +kernel
theorem d21_7 : decode jdk_67_method_14_code 7 = .ok (.areturn, 1) := by decide +kernel
theorem w128 {Z : State} {a0 : Array Value} (hw : ∀ d ∈ tables_1, d.before a0 Z = true) : (Jvm.Cond.code ({ cls := "java/lang/StringBuilder", name := "append", desc := "(C)Ljava/lang/StringBuilder;" } : Jvm.MethodName) jdk_67_method_14_code (2 : Nat) (Option.some (Jvm.ClassFile.FieldType.object "java/lang/StringBuilder"))).before a0 Z = true := hw _ (List.mem_of_getElem? (i := 128) rfl)
theorem pd_13 : parseMethodDescriptor "(C)Ljava/lang/StringBuilder;" = some ⟨[.char], some (.object "java/lang/StringBuilder")⟩ := by decide +kernel
theorem w124 {Z : State} {a0 : Array Value} (hw : ∀ d ∈ tables_1, d.before a0 Z = true) : (Jvm.Cond.methodLink "com/example/adjoinery/adjoinery/JsonWriter" (30 : Nat) ({ cls := "java/lang/StringBuilder", name := "append", desc := "(C)Ljava/lang/StringBuilder;" } : Jvm.MethodName)).before a0 Z = true := hw _ (List.mem_of_getElem? (i := 124) rfl)
theorem w127 {Z : State} {a0 : Array Value} (hw : ∀ d ∈ tables_1, d.before a0 Z = true) : (Jvm.Cond.selects "java/lang/StringBuilder" ({ cls := "java/lang/StringBuilder", name := "append", desc := "(C)Ljava/lang/StringBuilder;" } : Jvm.MethodName) ({ cls := "java/lang/StringBuilder", name := "append", desc := "(C)Ljava/lang/StringBuilder;" } : Jvm.MethodName)).before a0 Z = true := hw _ (List.mem_of_getElem? (i := 127) rfl)
theorem w125 {Z : State} {a0 : Array Value} (hw : ∀ d ∈ tables_1, d.before a0 Z = true) : (Jvm.Cond.declares ({ cls := "java/lang/StringBuilder", name := "append", desc := "(C)Ljava/lang/StringBuilder;" } : Jvm.MethodName)).before a0 Z = true := hw _ (List.mem_of_getElem? (i := 125) rfl)
theorem w126 {Z : State} {a0 : Array Value} (hw : ∀ d ∈ tables_1, d.before a0 Z = true) : (Jvm.Cond.instanceMethod ({ cls := "java/lang/StringBuilder", name := "append", desc := "(C)Ljava/lang/StringBuilder;" } : Jvm.MethodName)).before a0 Z = true := hw _ (List.mem_of_getElem? (i := 126) rfl)
theorem d19_12 : decode prog_33_method_11_code 12 = .ok (.pop, 1) := by decide +kernel
theorem d19_13 : decode prog_33_method_11_code 13 = .ok (.aload_n 0, 1) := by decide +kernel
theorem d19_14 : decode prog_33_method_11_code 14 = .ok (.iconst 0, 1) := by decide +kernel
theorem d19_15 : decode prog_33_method_11_code 15 = .ok (.putfield 34, 3) := by decide +kernel
theorem d19_18 : decode prog_33_method_11_code 18 = .ok (.aload_n 0, 1) := by decide +kernel
theorem d19_19 : decode prog_33_method_11_code 19 = .ok (.areturn, 1) := by decide +kernel
theorem w117 {Z : State} {a0 : Array Value} (hw : ∀ d ∈ tables_1, d.before a0 Z = true) : (Jvm.Cond.code ({ cls := "com/example/adjoinery/adjoinery/JsonWriter", name := "open", desc := "(C)Lcom/example/adjoinery/adjoinery/JsonWriter;" } : Jvm.MethodName) prog_33_method_11_code (2 : Nat) (Option.some (Jvm.ClassFile.FieldType.object "com/example/adjoinery/adjoinery/JsonWriter"))).before a0 Z = true := hw _ (List.mem_of_getElem? (i := 117) rfl)
theorem pd_14 : parseMethodDescriptor "(C)Lcom/example/adjoinery/adjoinery/JsonWriter;" = some ⟨[.char], some (.object "com/example/adjoinery/adjoinery/JsonWriter")⟩ := by decide +kernel
theorem w114 {Z : State} {a0 : Array Value} (hw : ∀ d ∈ tables_1, d.before a0 Z = true) : (Jvm.Cond.methodLink "com/example/adjoinery/adjoinery/JsonWriter" (16 : Nat) ({ cls := "com/example/adjoinery/adjoinery/JsonWriter", name := "open", desc := "(C)Lcom/example/adjoinery/adjoinery/JsonWriter;" } : Jvm.MethodName)).before a0 Z = true := hw _ (List.mem_of_getElem? (i := 114) rfl)
theorem w116 {Z : State} {a0 : Array Value} (hw : ∀ d ∈ tables_1, d.before a0 Z = true) : (Jvm.Cond.privateMethod ({ cls := "com/example/adjoinery/adjoinery/JsonWriter", name := "open", desc := "(C)Lcom/example/adjoinery/adjoinery/JsonWriter;" } : Jvm.MethodName)).before a0 Z = true := hw _ (List.mem_of_getElem? (i := 116) rfl)
theorem w115 {Z : State} {a0 : Array Value} (hw : ∀ d ∈ tables_1, d.before a0 Z = true) : (Jvm.Cond.instanceMethod ({ cls := "com/example/adjoinery/adjoinery/JsonWriter", name := "open", desc := "(C)Lcom/example/adjoinery/adjoinery/JsonWriter;" } : Jvm.MethodName)).before a0 Z = true := hw _ (List.mem_of_getElem? (i := 115) rfl)
theorem d18_6 : decode prog_33_method_4_code 6 = .ok (.areturn, 1) := by decide +kernel
theorem w113 {Z : State} {a0 : Array Value} (hw : ∀ d ∈ tables_1, d.before a0 Z = true) : (Jvm.Cond.code ({ cls := "com/example/adjoinery/adjoinery/JsonWriter", name := "startArray", desc := "()Lcom/example/adjoinery/adjoinery/JsonWriter;" } : Jvm.MethodName) prog_33_method_4_code (1 : Nat) (Option.some (Jvm.ClassFile.FieldType.object "com/example/adjoinery/adjoinery/JsonWriter"))).before a0 Z = true := hw _ (List.mem_of_getElem? (i := 113) rfl)
theorem pd_15 : parseMethodDescriptor "()Lcom/example/adjoinery/adjoinery/JsonWriter;" = some ⟨[], some (.object "com/example/adjoinery/adjoinery/JsonWriter")⟩ := by decide +kernel
theorem w109 {Z : State} {a0 : Array Value} (hw : ∀ d ∈ tables_1, d.before a0 Z = true) : (Jvm.Cond.methodLink "com/example/adjoinery/adjoinery/JsonWriterDrainPinLaw" (15 : Nat) ({ cls := "com/example/adjoinery/adjoinery/JsonWriter", name := "startArray", desc := "()Lcom/example/adjoinery/adjoinery/JsonWriter;" } : Jvm.MethodName)).before a0 Z = true := hw _ (List.mem_of_getElem? (i := 109) rfl)
theorem w112 {Z : State} {a0 : Array Value} (hw : ∀ d ∈ tables_1, d.before a0 Z = true) : (Jvm.Cond.selects "com/example/adjoinery/adjoinery/JsonWriter" ({ cls := "com/example/adjoinery/adjoinery/JsonWriter", name := "startArray", desc := "()Lcom/example/adjoinery/adjoinery/JsonWriter;" } : Jvm.MethodName) ({ cls := "com/example/adjoinery/adjoinery/JsonWriter", name := "startArray", desc := "()Lcom/example/adjoinery/adjoinery/JsonWriter;" } : Jvm.MethodName)).before a0 Z = true := hw _ (List.mem_of_getElem? (i := 112) rfl)
theorem w110 {Z : State} {a0 : Array Value} (hw : ∀ d ∈ tables_1, d.before a0 Z = true) : (Jvm.Cond.declares ({ cls := "com/example/adjoinery/adjoinery/JsonWriter", name := "startArray", desc := "()Lcom/example/adjoinery/adjoinery/JsonWriter;" } : Jvm.MethodName)).before a0 Z = true := hw _ (List.mem_of_getElem? (i := 110) rfl)
theorem w111 {Z : State} {a0 : Array Value} (hw : ∀ d ∈ tables_1, d.before a0 Z = true) : (Jvm.Cond.instanceMethod ({ cls := "com/example/adjoinery/adjoinery/JsonWriter", name := "startArray", desc := "()Lcom/example/adjoinery/adjoinery/JsonWriter;" } : Jvm.MethodName)).before a0 Z = true := hw _ (List.mem_of_getElem? (i := 111) rfl)
theorem d16_71 : decode jdk_68_method_13_code 71 = .ok (.aload_n 0, 1) := by decide +kernel
theorem d16_72 : decode jdk_68_method_13_code 72 = .ok (.iconst 1, 1) := by decide +kernel
theorem d16_73 : decode jdk_68_method_13_code 73 = .ok (.putfield 73, 3) := by decide +kernel
theorem w138 {Z : State} {a0 : Array Value} (hw : ∀ d ∈ tables_1, d.before a0 Z = true) : (Jvm.Cond.fieldLink "java/lang/AbstractStringBuilder" (73 : Nat) "java/lang/AbstractStringBuilder" "maybeLatin1" "Z").before a0 Z = true := hw _ (List.mem_of_getElem? (i := 138) rfl)
theorem d24_0 : decode prog_33_method_5_code 0 = .ok (.aload_n 0, 1) := by decide +kernel
theorem d24_1 : decode prog_33_method_5_code 1 = .ok (.bipush 93, 2) := by decide +kernel
theorem d24_3 : decode prog_33_method_5_code 3 = .ok (.invokevirtual 20, 3) := by decide +kernel
theorem d25_0 : decode prog_33_method_12_code 0 = .ok (.aload_n 0, 1) := by decide +kernel
theorem d25_1 : decode prog_33_method_12_code 1 = .ok (.getfield 10, 3) := by decide +kernel
theorem d25_4 : decode prog_33_method_12_code 4 = .ok (.iload_n 1, 1) := by decide +kernel
theorem d25_5 : decode prog_33_method_12_code 5 = .ok (.invokevirtual 30, 3) := by decide +kernel
theorem d25_8 : decode prog_33_method_12_code 8 = .ok (.pop, 1) := by decide +kernel
theorem d25_9 : decode prog_33_method_12_code 9 = .ok (.aload_n 0, 1) := by decide +kernel
theorem d25_10 : decode prog_33_method_12_code 10 = .ok (.iconst 1, 1) := by decide +kernel
theorem d25_11 : decode prog_33_method_12_code 11 = .ok (.putfield 34, 3) := by decide +kernel
theorem d25_14 : decode prog_33_method_12_code 14 = .ok (.aload_n 0, 1) := by decide +kernel
theorem d25_15 : decode prog_33_method_12_code 15 = .ok (.areturn, 1) := by decide +kernel
theorem w148 {Z : State} {a0 : Array Value} (hw : ∀ d ∈ tables_1, d.before a0 Z = true) : (Jvm.Cond.code ({ cls := "com/example/adjoinery/adjoinery/JsonWriter", name := "close", desc := "(C)Lcom/example/adjoinery/adjoinery/JsonWriter;" } : Jvm.MethodName) prog_33_method_12_code (2 : Nat) (Option.some (Jvm.ClassFile.FieldType.object "com/example/adjoinery/adjoinery/JsonWriter"))).before a0 Z = true := hw _ (List.mem_of_getElem? (i := 148) rfl)
theorem w145 {Z : State} {a0 : Array Value} (hw : ∀ d ∈ tables_1, d.before a0 Z = true) : (Jvm.Cond.methodLink "com/example/adjoinery/adjoinery/JsonWriter" (20 : Nat) ({ cls := "com/example/adjoinery/adjoinery/JsonWriter", name := "close", desc := "(C)Lcom/example/adjoinery/adjoinery/JsonWriter;" } : Jvm.MethodName)).before a0 Z = true := hw _ (List.mem_of_getElem? (i := 145) rfl)
theorem w147 {Z : State} {a0 : Array Value} (hw : ∀ d ∈ tables_1, d.before a0 Z = true) : (Jvm.Cond.privateMethod ({ cls := "com/example/adjoinery/adjoinery/JsonWriter", name := "close", desc := "(C)Lcom/example/adjoinery/adjoinery/JsonWriter;" } : Jvm.MethodName)).before a0 Z = true := hw _ (List.mem_of_getElem? (i := 147) rfl)
theorem w146 {Z : State} {a0 : Array Value} (hw : ∀ d ∈ tables_1, d.before a0 Z = true) : (Jvm.Cond.instanceMethod ({ cls := "com/example/adjoinery/adjoinery/JsonWriter", name := "close", desc := "(C)Lcom/example/adjoinery/adjoinery/JsonWriter;" } : Jvm.MethodName)).before a0 Z = true := hw _ (List.mem_of_getElem? (i := 146) rfl)
theorem d24_6 : decode prog_33_method_5_code 6 = .ok (.areturn, 1) := by decide +kernel
theorem w144 {Z : State} {a0 : Array Value} (hw : ∀ d ∈ tables_1, d.before a0 Z = true) : (Jvm.Cond.code ({ cls := "com/example/adjoinery/adjoinery/JsonWriter", name := "endArray", desc := "()Lcom/example/adjoinery/adjoinery/JsonWriter;" } : Jvm.MethodName) prog_33_method_5_code (1 : Nat) (Option.some (Jvm.ClassFile.FieldType.object "com/example/adjoinery/adjoinery/JsonWriter"))).before a0 Z = true := hw _ (List.mem_of_getElem? (i := 144) rfl)
theorem w140 {Z : State} {a0 : Array Value} (hw : ∀ d ∈ tables_1, d.before a0 Z = true) : (Jvm.Cond.methodLink "com/example/adjoinery/adjoinery/JsonWriterDrainPinLaw" (23 : Nat) ({ cls := "com/example/adjoinery/adjoinery/JsonWriter", name := "endArray", desc := "()Lcom/example/adjoinery/adjoinery/JsonWriter;" } : Jvm.MethodName)).before a0 Z = true := hw _ (List.mem_of_getElem? (i := 140) rfl)
theorem w143 {Z : State} {a0 : Array Value} (hw : ∀ d ∈ tables_1, d.before a0 Z = true) : (Jvm.Cond.selects "com/example/adjoinery/adjoinery/JsonWriter" ({ cls := "com/example/adjoinery/adjoinery/JsonWriter", name := "endArray", desc := "()Lcom/example/adjoinery/adjoinery/JsonWriter;" } : Jvm.MethodName) ({ cls := "com/example/adjoinery/adjoinery/JsonWriter", name := "endArray", desc := "()Lcom/example/adjoinery/adjoinery/JsonWriter;" } : Jvm.MethodName)).before a0 Z = true := hw _ (List.mem_of_getElem? (i := 143) rfl)
theorem w141 {Z : State} {a0 : Array Value} (hw : ∀ d ∈ tables_1, d.before a0 Z = true) : (Jvm.Cond.declares ({ cls := "com/example/adjoinery/adjoinery/JsonWriter", name := "endArray", desc := "()Lcom/example/adjoinery/adjoinery/JsonWriter;" } : Jvm.MethodName)).before a0 Z = true := hw _ (List.mem_of_getElem? (i := 141) rfl)
theorem w142 {Z : State} {a0 : Array Value} (hw : ∀ d ∈ tables_1, d.before a0 Z = true) : (Jvm.Cond.instanceMethod ({ cls := "com/example/adjoinery/adjoinery/JsonWriter", name := "endArray", desc := "()Lcom/example/adjoinery/adjoinery/JsonWriter;" } : Jvm.MethodName)).before a0 Z = true := hw _ (List.mem_of_getElem? (i := 142) rfl)
theorem d26_0 : decode jdk_42_method_139_code 0 = .ok (.getstatic 38, 3) := by decide +kernel
theorem w152 {Z : State} {a0 : Array Value} (hw : ∀ d ∈ tables_1, d.before a0 Z = true) : (Jvm.Cond.fieldLink "java/lang/String" (38 : Nat) "java/lang/String" "COMPACT_STRINGS" "Z").before a0 Z = true := hw _ (List.mem_of_getElem? (i := 152) rfl)
theorem d26_3 : decode jdk_42_method_139_code 3 = .ok (.ifCond .eq 23, 3) := by decide +kernel
theorem d26_6 : decode jdk_42_method_139_code 6 = .ok (.iload_n 0, 1) := by decide +kernel
theorem d26_7 : decode jdk_42_method_139_code 7 = .ok (.invokestatic 1015, 3) := by decide +kernel
theorem w153 {Z : State} {a0 : Array Value} (hw : ∀ d ∈ tables_1, d.before a0 Z = true) : (Jvm.Cond.methodLink "java/lang/String" (1015 : Nat) ({ cls := "java/lang/StringLatin1", name := "canEncode", desc := "(C)Z" } : Jvm.MethodName)).before a0 Z = true := hw _ (List.mem_of_getElem? (i := 153) rfl)
theorem d26_10 : decode jdk_42_method_139_code 10 = .ok (.ifCond .eq 16, 3) := by decide +kernel
theorem d26_13 : decode jdk_42_method_139_code 13 = .ok (.new 10, 3) := by decide +kernel
theorem w154 {Z : State} {a0 : Array Value} (hw : ∀ d ∈ tables_1, d.before a0 Z = true) : (Jvm.Cond.classLink "java/lang/String" (10 : Nat) "java/lang/String").before a0 Z = true := hw _ (List.mem_of_getElem? (i := 154) rfl)
theorem d26_16 : decode jdk_42_method_139_code 16 = .ok (.dup, 1) := by decide +kernel
theorem d26_17 : decode jdk_42_method_139_code 17 = .ok (.iload_n 0, 1) := by decide +kernel
theorem d26_18 : decode jdk_42_method_139_code 18 = .ok (.invokestatic 1018, 3) := by decide +kernel
theorem d27_0 : decode jdk_43_method_46_code 0 = .ok (.iconst 1, 1) := by decide +kernel
theorem d27_1 : decode jdk_43_method_46_code 1 = .ok (.newarray .byte, 2) := by decide +kernel
theorem d27_3 : decode jdk_43_method_46_code 3 = .ok (.dup, 1) := by decide +kernel
theorem d27_4 : decode jdk_43_method_46_code 4 = .ok (.iconst 0, 1) := by decide +kernel
theorem d27_5 : decode jdk_43_method_46_code 5 = .ok (.iload_n 0, 1) := by decide +kernel
theorem d27_6 : decode jdk_43_method_46_code 6 = .ok (.i2b, 1) := by decide +kernel
theorem d27_7 : decode jdk_43_method_46_code 7 = .ok (.bastore, 1) := by decide +kernel
theorem d27_8 : decode jdk_43_method_46_code 8 = .ok (.areturn, 1) := by decide +kernel
theorem w157 {Z : State} {a0 : Array Value} (hw : ∀ d ∈ tables_1, d.before a0 Z = true) : (Jvm.Cond.code ({ cls := "java/lang/StringLatin1", name := "toBytes", desc := "(C)[B" } : Jvm.MethodName) jdk_43_method_46_code (1 : Nat) (Option.some (Jvm.ClassFile.FieldType.array Jvm.ClassFile.FieldType.byte))).before a0 Z = true := hw _ (List.mem_of_getElem? (i := 157) rfl)
theorem pd_16 : parseMethodDescriptor "(C)[B" = some ⟨[.char], some (.array .byte)⟩ := by decide +kernel
theorem w155 {Z : State} {a0 : Array Value} (hw : ∀ d ∈ tables_1, d.before a0 Z = true) : (Jvm.Cond.methodLink "java/lang/String" (1018 : Nat) ({ cls := "java/lang/StringLatin1", name := "toBytes", desc := "(C)[B" } : Jvm.MethodName)).before a0 Z = true := hw _ (List.mem_of_getElem? (i := 155) rfl)
theorem w156 {Z : State} {a0 : Array Value} (hw : ∀ d ∈ tables_1, d.before a0 Z = true) : (Jvm.Cond.static ({ cls := "java/lang/StringLatin1", name := "toBytes", desc := "(C)[B" } : Jvm.MethodName)).before a0 Z = true := hw _ (List.mem_of_getElem? (i := 156) rfl)
theorem d26_21 : decode jdk_42_method_139_code 21 = .ok (.iconst 0, 1) := by decide +kernel
theorem d26_22 : decode jdk_42_method_139_code 22 = .ok (.invokespecial 209, 3) := by decide +kernel
theorem d28_0 : decode jdk_42_method_151_code 0 = .ok (.aload_n 0, 1) := by decide +kernel
theorem d28_1 : decode jdk_42_method_151_code 1 = .ok (.invokespecial 1, 3) := by decide +kernel
theorem d28_4 : decode jdk_42_method_151_code 4 = .ok (.aload_n 0, 1) := by decide +kernel
theorem d28_5 : decode jdk_42_method_151_code 5 = .ok (.aload_n 1, 1) := by decide +kernel
theorem d28_6 : decode jdk_42_method_151_code 6 = .ok (.putfield 9, 3) := by decide +kernel
theorem d28_9 : decode jdk_42_method_151_code 9 = .ok (.aload_n 0, 1) := by decide +kernel
theorem d28_10 : decode jdk_42_method_151_code 10 = .ok (.iload_n 2, 1) := by decide +kernel
theorem d28_11 : decode jdk_42_method_151_code 11 = .ok (.putfield 15, 3) := by decide +kernel
theorem d28_14 : decode jdk_42_method_151_code 14 = .ok (.return_, 1) := by decide +kernel
theorem w160 {Z : State} {a0 : Array Value} (hw : ∀ d ∈ tables_1, d.before a0 Z = true) : (Jvm.Cond.code ({ cls := "java/lang/String", name := "<init>", desc := "([BB)V" } : Jvm.MethodName) jdk_42_method_151_code (3 : Nat) (Option.none : Option Jvm.ClassFile.FieldType)).before a0 Z = true := hw _ (List.mem_of_getElem? (i := 160) rfl)
theorem pd_17 : parseMethodDescriptor "([BB)V" = some ⟨[(.array .byte), .byte], none⟩ := by decide +kernel
theorem w158 {Z : State} {a0 : Array Value} (hw : ∀ d ∈ tables_1, d.before a0 Z = true) : (Jvm.Cond.methodLink "java/lang/String" (209 : Nat) ({ cls := "java/lang/String", name := "<init>", desc := "([BB)V" } : Jvm.MethodName)).before a0 Z = true := hw _ (List.mem_of_getElem? (i := 158) rfl)
theorem w159 {Z : State} {a0 : Array Value} (hw : ∀ d ∈ tables_1, d.before a0 Z = true) : (Jvm.Cond.instanceMethod ({ cls := "java/lang/String", name := "<init>", desc := "([BB)V" } : Jvm.MethodName)).before a0 Z = true := hw _ (List.mem_of_getElem? (i := 159) rfl)
theorem d26_25 : decode jdk_42_method_139_code 25 = .ok (.areturn, 1) := by decide +kernel
theorem w151 {Z : State} {a0 : Array Value} (hw : ∀ d ∈ tables_1, d.before a0 Z = true) : (Jvm.Cond.code ({ cls := "java/lang/String", name := "valueOf", desc := "(C)Ljava/lang/String;" } : Jvm.MethodName) jdk_42_method_139_code (1 : Nat) (Option.some (Jvm.ClassFile.FieldType.object "java/lang/String"))).before a0 Z = true := hw _ (List.mem_of_getElem? (i := 151) rfl)
theorem pd_18 : parseMethodDescriptor "(C)Ljava/lang/String;" = some ⟨[.char], some (.object "java/lang/String")⟩ := by decide +kernel
theorem w149 {Z : State} {a0 : Array Value} (hw : ∀ d ∈ tables_1, d.before a0 Z = true) : (Jvm.Cond.methodLink "com/example/adjoinery/adjoinery/JsonWriterDrainPinLaw" (31 : Nat) ({ cls := "java/lang/String", name := "valueOf", desc := "(C)Ljava/lang/String;" } : Jvm.MethodName)).before a0 Z = true := hw _ (List.mem_of_getElem? (i := 149) rfl)
theorem w150 {Z : State} {a0 : Array Value} (hw : ∀ d ∈ tables_1, d.before a0 Z = true) : (Jvm.Cond.static ({ cls := "java/lang/String", name := "valueOf", desc := "(C)Ljava/lang/String;" } : Jvm.MethodName)).before a0 Z = true := hw _ (List.mem_of_getElem? (i := 150) rfl)
theorem d29_0 : decode jdk_42_method_55_code 0 = .ok (.aload_n 0, 1) := by decide +kernel
theorem d29_1 : decode jdk_42_method_55_code 1 = .ok (.getfield 9, 3) := by decide +kernel
theorem d29_4 : decode jdk_42_method_55_code 4 = .ok (.arraylength, 1) := by decide +kernel
theorem d29_5 : decode jdk_42_method_55_code 5 = .ok (.ifCond .ne 7, 3) := by decide +kernel
theorem d29_8 : decode jdk_42_method_55_code 8 = .ok (.iconst 1, 1) := by decide +kernel
theorem d29_9 : decode jdk_42_method_55_code 9 = .ok (.goto 4, 3) := by decide +kernel
theorem d29_13 : decode jdk_42_method_55_code 13 = .ok (.ireturn, 1) := by decide +kernel
theorem w165 {Z : State} {a0 : Array Value} (hw : ∀ d ∈ tables_1, d.before a0 Z = true) : (Jvm.Cond.code ({ cls := "java/lang/String", name := "isEmpty", desc := "()Z" } : Jvm.MethodName) jdk_42_method_55_code (1 : Nat) (Option.some Jvm.ClassFile.FieldType.boolean)).before a0 Z = true := hw _ (List.mem_of_getElem? (i := 165) rfl)
theorem w161 {Z : State} {a0 : Array Value} (hw : ∀ d ∈ tables_1, d.before a0 Z = true) : (Jvm.Cond.methodLink "com/example/adjoinery/adjoinery/JsonWriterDrainPinLaw" (35 : Nat) ({ cls := "java/lang/String", name := "isEmpty", desc := "()Z" } : Jvm.MethodName)).before a0 Z = true := hw _ (List.mem_of_getElem? (i := 161) rfl)
theorem w164 {Z : State} {a0 : Array Value} (hw : ∀ d ∈ tables_1, d.before a0 Z = true) : (Jvm.Cond.selects "java/lang/String" ({ cls := "java/lang/String", name := "isEmpty", desc := "()Z" } : Jvm.MethodName) ({ cls := "java/lang/String", name := "isEmpty", desc := "()Z" } : Jvm.MethodName)).before a0 Z = true := hw _ (List.mem_of_getElem? (i := 164) rfl)
theorem w162 {Z : State} {a0 : Array Value} (hw : ∀ d ∈ tables_1, d.before a0 Z = true) : (Jvm.Cond.declares ({ cls := "java/lang/String", name := "isEmpty", desc := "()Z" } : Jvm.MethodName)).before a0 Z = true := hw _ (List.mem_of_getElem? (i := 162) rfl)
theorem w163 {Z : State} {a0 : Array Value} (hw : ∀ d ∈ tables_1, d.before a0 Z = true) : (Jvm.Cond.instanceMethod ({ cls := "java/lang/String", name := "isEmpty", desc := "()Z" } : Jvm.MethodName)).before a0 Z = true := hw _ (List.mem_of_getElem? (i := 163) rfl)
theorem d30_0 : decode jdk_42_method_66_code 0 = .ok (.aload_n 0, 1) := by decide +kernel
theorem d30_1 : decode jdk_42_method_66_code 1 = .ok (.aload_n 1, 1) := by decide +kernel
theorem d30_2 : decode jdk_42_method_66_code 2 = .ok (.if_acmp .ne 5, 3) := by decide +kernel
theorem d30_7 : decode jdk_42_method_66_code 7 = .ok (.aload_n 1, 1) := by decide +kernel
theorem d30_8 : decode jdk_42_method_66_code 8 = .ok (.instanceof 10, 3) := by decide +kernel
theorem d30_11 : decode jdk_42_method_66_code 11 = .ok (.ifCond .eq 43, 3) := by decide +kernel
theorem d30_14 : decode jdk_42_method_66_code 14 = .ok (.aload_n 1, 1) := by decide +kernel
theorem d30_15 : decode jdk_42_method_66_code 15 = .ok (.checkcast 10, 3) := by decide +kernel
theorem d30_18 : decode jdk_42_method_66_code 18 = .ok (.astore_n 2, 1) := by decide +kernel
theorem d30_19 : decode jdk_42_method_66_code 19 = .ok (.getstatic 38, 3) := by decide +kernel
theorem d30_22 : decode jdk_42_method_66_code 22 = .ok (.ifCond .eq 14, 3) := by decide +kernel
theorem d30_25 : decode jdk_42_method_66_code 25 = .ok (.aload_n 0, 1) := by decide +kernel
theorem d30_26 : decode jdk_42_method_66_code 26 = .ok (.getfield 15, 3) := by decide +kernel
theorem d30_29 : decode jdk_42_method_66_code 29 = .ok (.aload_n 2, 1) := by decide +kernel
theorem d30_30 : decode jdk_42_method_66_code 30 = .ok (.getfield 15, 3) := by decide +kernel
theorem d30_33 : decode jdk_42_method_66_code 33 = .ok (.if_icmp .ne 21, 3) := by decide +kernel
theorem d30_36 : decode jdk_42_method_66_code 36 = .ok (.aload_n 0, 1) := by decide +kernel
theorem d30_37 : decode jdk_42_method_66_code 37 = .ok (.getfield 9, 3) := by decide +kernel
theorem d30_40 : decode jdk_42_method_66_code 40 = .ok (.aload_n 2, 1) := by decide +kernel
theorem d30_41 : decode jdk_42_method_66_code 41 = .ok (.getfield 9, 3) := by decide +kernel
theorem d30_44 : decode jdk_42_method_66_code 44 = .ok (.invokestatic 541, 3) := by decide +kernel
theorem d31_0 : decode jdk_43_method_13_code 0 = .ok (.aload_n 0, 1) := by decide +kernel
theorem d31_1 : decode jdk_43_method_13_code 1 = .ok (.arraylength, 1) := by decide +kernel
theorem d31_2 : decode jdk_43_method_13_code 2 = .ok (.aload_n 1, 1) := by decide +kernel
theorem d31_3 : decode jdk_43_method_13_code 3 = .ok (.arraylength, 1) := by decide +kernel
theorem d31_4 : decode jdk_43_method_13_code 4 = .ok (.if_icmp .ne 30, 3) := by decide +kernel
theorem d31_7 : decode jdk_43_method_13_code 7 = .ok (.iconst 0, 1) := by decide +kernel
theorem d31_8 : decode jdk_43_method_13_code 8 = .ok (.istore_n 2, 1) := by decide +kernel
theorem d31_9 : decode jdk_43_method_13_code 9 = .ok (.iload_n 2, 1) := by decide +kernel
theorem d31_10 : decode jdk_43_method_13_code 10 = .ok (.aload_n 0, 1) := by decide +kernel
theorem d31_11 : decode jdk_43_method_13_code 11 = .ok (.arraylength, 1) := by decide +kernel
theorem d31_12 : decode jdk_43_method_13_code 12 = .ok (.if_icmp .ge 20, 3) := by decide +kernel
theorem d31_15 : decode jdk_43_method_13_code 15 = .ok (.aload_n 0, 1) := by decide +kernel
theorem d31_16 : decode jdk_43_method_13_code 16 = .ok (.iload_n 2, 1) := by decide +kernel
theorem d31_17 : decode jdk_43_method_13_code 17 = .ok (.baload, 1) := by decide +kernel
theorem d31_18 : decode jdk_43_method_13_code 18 = .ok (.aload_n 1, 1) := by decide +kernel
theorem d31_19 : decode jdk_43_method_13_code 19 = .ok (.iload_n 2, 1) := by decide +kernel
theorem d31_20 : decode jdk_43_method_13_code 20 = .ok (.baload, 1) := by decide +kernel
theorem d31_21 : decode jdk_43_method_13_code 21 = .ok (.if_icmp .eq 5, 3) := by decide +kernel
theorem d31_26 : decode jdk_43_method_13_code 26 = .ok (.iinc 2 1, 3) := by decide +kernel
theorem d31_29 : decode jdk_43_method_13_code 29 = .ok (.goto (-20), 3) := by decide +kernel
theorem d31_32 : decode jdk_43_method_13_code 32 = .ok (.iconst 1, 1) := by decide +kernel
theorem d31_33 : decode jdk_43_method_13_code 33 = .ok (.ireturn, 1) := by decide +kernel
theorem w173 {Z : State} {a0 : Array Value} (hw : ∀ d ∈ tables_1, d.before a0 Z = true) : (Jvm.Cond.code ({ cls := "java/lang/StringLatin1", name := "equals", desc := "([B[B)Z" } : Jvm.MethodName) jdk_43_method_13_code (3 : Nat) (Option.some Jvm.ClassFile.FieldType.boolean)).before a0 Z = true := hw _ (List.mem_of_getElem? (i := 173) rfl)
theorem pd_19 : parseMethodDescriptor "([B[B)Z" = some ⟨[(.array .byte), (.array .byte)], some .boolean⟩ := by decide +kernel
theorem w171 {Z : State} {a0 : Array Value} (hw : ∀ d ∈ tables_1, d.before a0 Z = true) : (Jvm.Cond.methodLink "java/lang/String" (541 : Nat) ({ cls := "java/lang/StringLatin1", name := "equals", desc := "([B[B)Z" } : Jvm.MethodName)).before a0 Z = true := hw _ (List.mem_of_getElem? (i := 171) rfl)
theorem w172 {Z : State} {a0 : Array Value} (hw : ∀ d ∈ tables_1, d.before a0 Z = true) : (Jvm.Cond.static ({ cls := "java/lang/StringLatin1", name := "equals", desc := "([B[B)Z" } : Jvm.MethodName)).before a0 Z = true := hw _ (List.mem_of_getElem? (i := 172) rfl)
theorem d30_47 : decode jdk_42_method_66_code 47 = .ok (.ifCond .eq 7, 3) := by decide +kernel
theorem d30_50 : decode jdk_42_method_66_code 50 = .ok (.iconst 1, 1) := by decide +kernel
theorem d30_51 : decode jdk_42_method_66_code 51 = .ok (.goto 4, 3) := by decide +kernel
theorem d30_55 : decode jdk_42_method_66_code 55 = .ok (.ireturn, 1) := by decide +kernel
theorem w170 {Z : State} {a0 : Array Value} (hw : ∀ d ∈ tables_1, d.before a0 Z = true) : (Jvm.Cond.code ({ cls := "java/lang/String", name := "equals", desc := "(Ljava/lang/Object;)Z" } : Jvm.MethodName) jdk_42_method_66_code (3 : Nat) (Option.some Jvm.ClassFile.FieldType.boolean)).before a0 Z = true := hw _ (List.mem_of_getElem? (i := 170) rfl)
theorem pd_20 : parseMethodDescriptor "(Ljava/lang/Object;)Z" = some ⟨[(.object "java/lang/Object")], some .boolean⟩ := by decide +kernel
theorem w166 {Z : State} {a0 : Array Value} (hw : ∀ d ∈ tables_1, d.before a0 Z = true) : (Jvm.Cond.methodLink "com/example/adjoinery/adjoinery/JsonWriterDrainPinLaw" (39 : Nat) ({ cls := "java/lang/String", name := "equals", desc := "(Ljava/lang/Object;)Z" } : Jvm.MethodName)).before a0 Z = true := hw _ (List.mem_of_getElem? (i := 166) rfl)
theorem w169 {Z : State} {a0 : Array Value} (hw : ∀ d ∈ tables_1, d.before a0 Z = true) : (Jvm.Cond.selects "java/lang/String" ({ cls := "java/lang/String", name := "equals", desc := "(Ljava/lang/Object;)Z" } : Jvm.MethodName) ({ cls := "java/lang/String", name := "equals", desc := "(Ljava/lang/Object;)Z" } : Jvm.MethodName)).before a0 Z = true := hw _ (List.mem_of_getElem? (i := 169) rfl)
theorem w167 {Z : State} {a0 : Array Value} (hw : ∀ d ∈ tables_1, d.before a0 Z = true) : (Jvm.Cond.declares ({ cls := "java/lang/String", name := "equals", desc := "(Ljava/lang/Object;)Z" } : Jvm.MethodName)).before a0 Z = true := hw _ (List.mem_of_getElem? (i := 167) rfl)
theorem w168 {Z : State} {a0 : Array Value} (hw : ∀ d ∈ tables_1, d.before a0 Z = true) : (Jvm.Cond.instanceMethod ({ cls := "java/lang/String", name := "equals", desc := "(Ljava/lang/Object;)Z" } : Jvm.MethodName)).before a0 Z = true := hw _ (List.mem_of_getElem? (i := 168) rfl)
theorem d32_0 : decode prog_33_method_9_code 0 = .ok (.aload_n 0, 1) := by decide +kernel
theorem d32_1 : decode prog_33_method_9_code 1 = .ok (.invokevirtual 23, 3) := by decide +kernel
theorem d32_4 : decode prog_33_method_9_code 4 = .ok (.aload_n 0, 1) := by decide +kernel
theorem d32_5 : decode prog_33_method_9_code 5 = .ok (.getfield 10, 3) := by decide +kernel
theorem d32_8 : decode prog_33_method_9_code 8 = .ok (.lload_n 1, 1) := by decide +kernel
theorem d32_9 : decode prog_33_method_9_code 9 = .ok (.invokevirtual 41, 3) := by decide +kernel
theorem d33_0 : decode jdk_67_method_16_code 0 = .ok (.aload_n 0, 1) := by decide +kernel
theorem d33_1 : decode jdk_67_method_16_code 1 = .ok (.lload_n 1, 1) := by decide +kernel
theorem d33_2 : decode jdk_67_method_16_code 2 = .ok (.invokespecial 56, 3) := by decide +kernel
theorem d34_0 : decode jdk_68_method_33_code 0 = .ok (.aload_n 0, 1) := by decide +kernel
theorem d34_1 : decode jdk_68_method_33_code 1 = .ok (.getfield 79, 3) := by decide +kernel
theorem d34_4 : decode jdk_68_method_33_code 4 = .ok (.istore_n 3, 1) := by decide +kernel
theorem d34_5 : decode jdk_68_method_33_code 5 = .ok (.iload_n 3, 1) := by decide +kernel
theorem d34_6 : decode jdk_68_method_33_code 6 = .ok (.lload_n 1, 1) := by decide +kernel
theorem d34_7 : decode jdk_68_method_33_code 7 = .ok (.invokestatic 254, 3) := by decide +kernel
theorem pn_java_lang_Long : plainName "java/lang/Long" = true := by first | (simp [plainName, overriddenIn]; done) | decide +kernel
theorem d35_0 : decode jdk_35_method_15_code 0 = .ok (.iconst 1, 1) := by decide +kernel
theorem d35_1 : decode jdk_35_method_15_code 1 = .ok (.istore_n 2, 1) := by decide +kernel
theorem d35_2 : decode jdk_35_method_15_code 2 = .ok (.lload_n 0, 1) := by decide +kernel
theorem d35_3 : decode jdk_35_method_15_code 3 = .ok (.lconst 0, 1) := by decide +kernel
theorem d35_4 : decode jdk_35_method_15_code 4 = .ok (.lcmp, 1) := by decide +kernel
theorem d35_5 : decode jdk_35_method_15_code 5 = .ok (.ifCond .lt 8, 3) := by decide +kernel
theorem d35_8 : decode jdk_35_method_15_code 8 = .ok (.iconst 0, 1) := by decide +kernel
theorem d35_9 : decode jdk_35_method_15_code 9 = .ok (.istore_n 2, 1) := by decide +kernel
theorem d35_10 : decode jdk_35_method_15_code 10 = .ok (.lload_n 0, 1) := by decide +kernel
theorem d35_11 : decode jdk_35_method_15_code 11 = .ok (.lneg, 1) := by decide +kernel
theorem d35_12 : decode jdk_35_method_15_code 12 = .ok (.lstore_n 0, 1) := by decide +kernel
theorem d35_13 : decode jdk_35_method_15_code 13 = .ok (.ldc2_w 140, 3) := by decide +kernel
theorem w192 {Z : State} {a0 : Array Value} (hw : ∀ d ∈ tables_1, d.before a0 Z = true) : (Jvm.Cond.constantLong "java/lang/Long" (140 : Nat) (-10 : Int64)).before a0 Z = true := hw _ (List.mem_of_getElem? (i := 192) rfl)
theorem d35_16 : decode jdk_35_method_15_code 16 = .ok (.lstore_n 3, 1) := by decide +kernel
theorem d35_17 : decode jdk_35_method_15_code 17 = .ok (.iconst 1, 1) := by decide +kernel
theorem d35_18 : decode jdk_35_method_15_code 18 = .ok (.istore 5, 2) := by decide +kernel
theorem d35_20 : decode jdk_35_method_15_code 20 = .ok (.iload 5, 2) := by decide +kernel
theorem d35_22 : decode jdk_35_method_15_code 22 = .ok (.bipush 19, 2) := by decide +kernel
theorem d35_24 : decode jdk_35_method_15_code 24 = .ok (.if_icmp .ge 26, 3) := by decide +kernel
theorem d35_27 : decode jdk_35_method_15_code 27 = .ok (.lload_n 0, 1) := by decide +kernel
theorem d35_28 : decode jdk_35_method_15_code 28 = .ok (.lload_n 3, 1) := by decide +kernel
theorem d35_29 : decode jdk_35_method_15_code 29 = .ok (.lcmp, 1) := by decide +kernel
theorem d35_30 : decode jdk_35_method_15_code 30 = .ok (.ifCond .le 8, 3) := by decide +kernel
theorem d35_33 : decode jdk_35_method_15_code 33 = .ok (.iload 5, 2) := by decide +kernel
theorem d35_35 : decode jdk_35_method_15_code 35 = .ok (.iload_n 2, 1) := by decide +kernel
theorem d35_36 : decode jdk_35_method_15_code 36 = .ok (.iadd, 1) := by decide +kernel
theorem d35_37 : decode jdk_35_method_15_code 37 = .ok (.ireturn, 1) := by decide +kernel
theorem w191 {Z : State} {a0 : Array Value} (hw : ∀ d ∈ tables_1, d.before a0 Z = true) : (Jvm.Cond.code ({ cls := "java/lang/Long", name := "stringSize", desc := "(J)I" } : Jvm.MethodName) jdk_35_method_15_code (6 : Nat) (Option.some Jvm.ClassFile.FieldType.int)).before a0 Z = true := hw _ (List.mem_of_getElem? (i := 191) rfl)
theorem w190 {Z : State} {a0 : Array Value} (hw : ∀ d ∈ tables_1, d.before a0 Z = true) : (Jvm.Cond.initialized "java/lang/Long").before a0 Z = true := hw _ (List.mem_of_getElem? (i := 190) rfl)
theorem pd_21 : parseMethodDescriptor "(J)I" = some ⟨[.long], some .int⟩ := by decide +kernel
theorem w188 {Z : State} {a0 : Array Value} (hw : ∀ d ∈ tables_1, d.before a0 Z = true) : (Jvm.Cond.methodLink "java/lang/AbstractStringBuilder" (254 : Nat) ({ cls := "java/lang/Long", name := "stringSize", desc := "(J)I" } : Jvm.MethodName)).before a0 Z = true := hw _ (List.mem_of_getElem? (i := 188) rfl)
theorem w189 {Z : State} {a0 : Array Value} (hw : ∀ d ∈ tables_1, d.before a0 Z = true) : (Jvm.Cond.static ({ cls := "java/lang/Long", name := "stringSize", desc := "(J)I" } : Jvm.MethodName)).before a0 Z = true := hw _ (List.mem_of_getElem? (i := 189) rfl)
theorem d34_10 : decode jdk_68_method_33_code 10 = .ok (.iadd, 1) := by decide +kernel
theorem d34_11 : decode jdk_68_method_33_code 11 = .ok (.istore 4, 2) := by decide +kernel
theorem d34_13 : decode jdk_68_method_33_code 13 = .ok (.aload_n 0, 1) := by decide +kernel
theorem d34_14 : decode jdk_68_method_33_code 14 = .ok (.iload 4, 2) := by decide +kernel
theorem d34_16 : decode jdk_68_method_33_code 16 = .ok (.invokevirtual 100, 3) := by decide +kernel
theorem d34_19 : decode jdk_68_method_33_code 19 = .ok (.aload_n 0, 1) := by decide +kernel
theorem d34_20 : decode jdk_68_method_33_code 20 = .ok (.invokevirtual 83, 3) := by decide +kernel
theorem d34_23 : decode jdk_68_method_33_code 23 = .ok (.ifCond .eq 17, 3) := by decide +kernel
theorem d34_26 : decode jdk_68_method_33_code 26 = .ok (.lload_n 1, 1) := by decide +kernel
theorem d34_27 : decode jdk_68_method_33_code 27 = .ok (.iload 4, 2) := by decide +kernel
theorem d34_29 : decode jdk_68_method_33_code 29 = .ok (.aload_n 0, 1) := by decide +kernel
theorem d34_30 : decode jdk_68_method_33_code 30 = .ok (.getfield 15, 3) := by decide +kernel
theorem d34_33 : decode jdk_68_method_33_code 33 = .ok (.invokestatic 259, 3) := by decide +kernel
theorem d36_0 : decode jdk_35_method_14_code 0 = .ok (.iload_n 2, 1) := by decide +kernel
theorem d36_1 : decode jdk_35_method_14_code 1 = .ok (.istore 7, 2) := by decide +kernel
theorem d36_3 : decode jdk_35_method_14_code 3 = .ok (.lload_n 0, 1) := by decide +kernel
theorem d36_4 : decode jdk_35_method_14_code 4 = .ok (.lconst 0, 1) := by decide +kernel
theorem d36_5 : decode jdk_35_method_14_code 5 = .ok (.lcmp, 1) := by decide +kernel
theorem d36_6 : decode jdk_35_method_14_code 6 = .ok (.ifCond .ge 7, 3) := by decide +kernel
theorem d36_13 : decode jdk_35_method_14_code 13 = .ok (.iconst 0, 1) := by decide +kernel
theorem d36_14 : decode jdk_35_method_14_code 14 = .ok (.istore 8, 2) := by decide +kernel
theorem d36_16 : decode jdk_35_method_14_code 16 = .ok (.iload 8, 2) := by decide +kernel
theorem d36_18 : decode jdk_35_method_14_code 18 = .ok (.ifCond .ne 6, 3) := by decide +kernel
theorem d36_21 : decode jdk_35_method_14_code 21 = .ok (.lload_n 0, 1) := by decide +kernel
theorem d36_22 : decode jdk_35_method_14_code 22 = .ok (.lneg, 1) := by decide +kernel
theorem d36_23 : decode jdk_35_method_14_code 23 = .ok (.lstore_n 0, 1) := by decide +kernel
theorem d36_24 : decode jdk_35_method_14_code 24 = .ok (.lload_n 0, 1) := by decide +kernel
theorem d36_25 : decode jdk_35_method_14_code 25 = .ok (.ldc2_w 129, 3) := by decide +kernel
theorem w196 {Z : State} {a0 : Array Value} (hw : ∀ d ∈ tables_1, d.before a0 Z = true) : (Jvm.Cond.constantLong "java/lang/Long" (129 : Nat) (-2147483648 : Int64)).before a0 Z = true := hw _ (List.mem_of_getElem? (i := 196) rfl)
theorem d36_28 : decode jdk_35_method_14_code 28 = .ok (.lcmp, 1) := by decide +kernel
theorem d36_29 : decode jdk_35_method_14_code 29 = .ok (.ifCond .gt 53, 3) := by decide +kernel
theorem d36_82 : decode jdk_35_method_14_code 82 = .ok (.lload_n 0, 1) := by decide +kernel
theorem d36_83 : decode jdk_35_method_14_code 83 = .ok (.l2i, 1) := by decide +kernel
theorem d36_84 : decode jdk_35_method_14_code 84 = .ok (.istore 10, 2) := by decide +kernel
theorem d36_86 : decode jdk_35_method_14_code 86 = .ok (.iload 10, 2) := by decide +kernel
theorem d36_88 : decode jdk_35_method_14_code 88 = .ok (.bipush (-100), 2) := by decide +kernel
theorem d36_90 : decode jdk_35_method_14_code 90 = .ok (.if_icmp .gt 53, 3) := by decide +kernel
theorem d36_143 : decode jdk_35_method_14_code 143 = .ok (.aload_n 3, 1) := by decide +kernel
theorem d36_144 : decode jdk_35_method_14_code 144 = .ok (.iinc 7 (-1), 3) := by decide +kernel
theorem d36_147 : decode jdk_35_method_14_code 147 = .ok (.iload 7, 2) := by decide +kernel
theorem d36_149 : decode jdk_35_method_14_code 149 = .ok (.getstatic 133, 3) := by decide +kernel
theorem w197 {Z : State} {a0 : Array Value} (hw : ∀ d ∈ tables_1, d.before a0 Z = true) : (Jvm.Cond.fieldLink "java/lang/Long" (133 : Nat) "java/lang/Integer" "DigitOnes" "[B").before a0 Z = true := hw _ (List.mem_of_getElem? (i := 197) rfl)
theorem d36_152 : decode jdk_35_method_14_code 152 = .ok (.iload 10, 2) := by decide +kernel
theorem d36_154 : decode jdk_35_method_14_code 154 = .ok (.ineg, 1) := by decide +kernel
theorem d36_155 : decode jdk_35_method_14_code 155 = .ok (.baload, 1) := by decide +kernel
theorem d36_156 : decode jdk_35_method_14_code 156 = .ok (.bastore, 1) := by decide +kernel
theorem d36_157 : decode jdk_35_method_14_code 157 = .ok (.iload 10, 2) := by decide +kernel
theorem d36_159 : decode jdk_35_method_14_code 159 = .ok (.bipush (-9), 2) := by decide +kernel
theorem d36_161 : decode jdk_35_method_14_code 161 = .ok (.if_icmp .ge 17, 3) := by decide +kernel
theorem d36_178 : decode jdk_35_method_14_code 178 = .ok (.iload 8, 2) := by decide +kernel
theorem d36_180 : decode jdk_35_method_14_code 180 = .ok (.ifCond .eq 12, 3) := by decide +kernel
theorem d36_192 : decode jdk_35_method_14_code 192 = .ok (.iload 7, 2) := by decide +kernel
theorem d36_194 : decode jdk_35_method_14_code 194 = .ok (.ireturn, 1) := by decide +kernel
theorem w195 {Z : State} {a0 : Array Value} (hw : ∀ d ∈ tables_1, d.before a0 Z = true) : (Jvm.Cond.code ({ cls := "java/lang/Long", name := "getChars", desc := "(JI[B)I" } : Jvm.MethodName) jdk_35_method_14_code (11 : Nat) (Option.some Jvm.ClassFile.FieldType.int)).before a0 Z = true := hw _ (List.mem_of_getElem? (i := 195) rfl)
theorem pd_22 : parseMethodDescriptor "(JI[B)I" = some ⟨[.long, .int, (.array .byte)], some .int⟩ := by decide +kernel
theorem w193 {Z : State} {a0 : Array Value} (hw : ∀ d ∈ tables_1, d.before a0 Z = true) : (Jvm.Cond.methodLink "java/lang/AbstractStringBuilder" (259 : Nat) ({ cls := "java/lang/Long", name := "getChars", desc := "(JI[B)I" } : Jvm.MethodName)).before a0 Z = true := hw _ (List.mem_of_getElem? (i := 193) rfl)
theorem w194 {Z : State} {a0 : Array Value} (hw : ∀ d ∈ tables_1, d.before a0 Z = true) : (Jvm.Cond.static ({ cls := "java/lang/Long", name := "getChars", desc := "(JI[B)I" } : Jvm.MethodName)).before a0 Z = true := hw _ (List.mem_of_getElem? (i := 194) rfl)
theorem d34_36 : decode jdk_68_method_33_code 36 = .ok (.pop, 1) := by decide +kernel
theorem d34_37 : decode jdk_68_method_33_code 37 = .ok (.goto 15, 3) := by decide +kernel
theorem d34_52 : decode jdk_68_method_33_code 52 = .ok (.aload_n 0, 1) := by decide +kernel
theorem d34_53 : decode jdk_68_method_33_code 53 = .ok (.iload 4, 2) := by decide +kernel
theorem d34_55 : decode jdk_68_method_33_code 55 = .ok (.putfield 79, 3) := by decide +kernel
theorem d34_58 : decode jdk_68_method_33_code 58 = .ok (.aload_n 0, 1) := by decide +kernel
theorem d34_59 : decode jdk_68_method_33_code 59 = .ok (.areturn, 1) := by decide +kernel
theorem w187 {Z : State} {a0 : Array Value} (hw : ∀ d ∈ tables_1, d.before a0 Z = true) : (Jvm.Cond.code ({ cls := "java/lang/AbstractStringBuilder", name := "append", desc := "(J)Ljava/lang/AbstractStringBuilder;" } : Jvm.MethodName) jdk_68_method_33_code (5 : Nat) (Option.some (Jvm.ClassFile.FieldType.object "java/lang/AbstractStringBuilder"))).before a0 Z = true := hw _ (List.mem_of_getElem? (i := 187) rfl)
theorem pd_23 : parseMethodDescriptor "(J)Ljava/lang/AbstractStringBuilder;" = some ⟨[.long], some (.object "java/lang/AbstractStringBuilder")⟩ := by decide +kernel
theorem w184 {Z : State} {a0 : Array Value} (hw : ∀ d ∈ tables_1, d.before a0 Z = true) : (Jvm.Cond.methodLink "java/lang/StringBuilder" (56 : Nat) ({ cls := "java/lang/AbstractStringBuilder", name := "append", desc := "(J)Ljava/lang/AbstractStringBuilder;" } : Jvm.MethodName)).before a0 Z = true := hw _ (List.mem_of_getElem? (i := 184) rfl)
theorem w185 {Z : State} {a0 : Array Value} (hw : ∀ d ∈ tables_1, d.before a0 Z = true) : (Jvm.Cond.instanceMethod ({ cls := "java/lang/AbstractStringBuilder", name := "append", desc := "(J)Ljava/lang/AbstractStringBuilder;" } : Jvm.MethodName)).before a0 Z = true := hw _ (List.mem_of_getElem? (i := 185) rfl)
theorem d33_5 : decode jdk_67_method_16_code 5 = .ok (.pop, 1) := by decide +kernel
theorem d33_6 : decode jdk_67_method_16_code 6 = .ok (.aload_n 0, 1) := by decide +kernel
theorem d33_7 : decode jdk_67_method_16_code 7 = .ok (.areturn, 1) := by decide +kernel
theorem w183 {Z : State} {a0 : Array Value} (hw : ∀ d ∈ tables_1, d.before a0 Z = true) : (Jvm.Cond.code ({ cls := "java/lang/StringBuilder", name := "append", desc := "(J)Ljava/lang/StringBuilder;" } : Jvm.MethodName) jdk_67_method_16_code (3 : Nat) (Option.some (Jvm.ClassFile.FieldType.object "java/lang/StringBuilder"))).before a0 Z = true := hw _ (List.mem_of_getElem? (i := 183) rfl)
theorem pd_24 : parseMethodDescriptor "(J)Ljava/lang/StringBuilder;" = some ⟨[.long], some (.object "java/lang/StringBuilder")⟩ := by decide +kernel
theorem w179 {Z : State} {a0 : Array Value} (hw : ∀ d ∈ tables_1, d.before a0 Z = true) : (Jvm.Cond.methodLink "com/example/adjoinery/adjoinery/JsonWriter" (41 : Nat) ({ cls := "java/lang/StringBuilder", name := "append", desc := "(J)Ljava/lang/StringBuilder;" } : Jvm.MethodName)).before a0 Z = true := hw _ (List.mem_of_getElem? (i := 179) rfl)
theorem w182 {Z : State} {a0 : Array Value} (hw : ∀ d ∈ tables_1, d.before a0 Z = true) : (Jvm.Cond.selects "java/lang/StringBuilder" ({ cls := "java/lang/StringBuilder", name := "append", desc := "(J)Ljava/lang/StringBuilder;" } : Jvm.MethodName) ({ cls := "java/lang/StringBuilder", name := "append", desc := "(J)Ljava/lang/StringBuilder;" } : Jvm.MethodName)).before a0 Z = true := hw _ (List.mem_of_getElem? (i := 182) rfl)
theorem w180 {Z : State} {a0 : Array Value} (hw : ∀ d ∈ tables_1, d.before a0 Z = true) : (Jvm.Cond.declares ({ cls := "java/lang/StringBuilder", name := "append", desc := "(J)Ljava/lang/StringBuilder;" } : Jvm.MethodName)).before a0 Z = true := hw _ (List.mem_of_getElem? (i := 180) rfl)
theorem w181 {Z : State} {a0 : Array Value} (hw : ∀ d ∈ tables_1, d.before a0 Z = true) : (Jvm.Cond.instanceMethod ({ cls := "java/lang/StringBuilder", name := "append", desc := "(J)Ljava/lang/StringBuilder;" } : Jvm.MethodName)).before a0 Z = true := hw _ (List.mem_of_getElem? (i := 181) rfl)
theorem d32_12 : decode prog_33_method_9_code 12 = .ok (.pop, 1) := by decide +kernel
theorem d32_13 : decode prog_33_method_9_code 13 = .ok (.aload_n 0, 1) := by decide +kernel
theorem d32_14 : decode prog_33_method_9_code 14 = .ok (.iconst 1, 1) := by decide +kernel
theorem d32_15 : decode prog_33_method_9_code 15 = .ok (.putfield 34, 3) := by decide +kernel
theorem d32_18 : decode prog_33_method_9_code 18 = .ok (.aload_n 0, 1) := by decide +kernel
theorem d32_19 : decode prog_33_method_9_code 19 = .ok (.areturn, 1) := by decide +kernel
theorem w178 {Z : State} {a0 : Array Value} (hw : ∀ d ∈ tables_1, d.before a0 Z = true) : (Jvm.Cond.code ({ cls := "com/example/adjoinery/adjoinery/JsonWriter", name := "number", desc := "(J)Lcom/example/adjoinery/adjoinery/JsonWriter;" } : Jvm.MethodName) prog_33_method_9_code (3 : Nat) (Option.some (Jvm.ClassFile.FieldType.object "com/example/adjoinery/adjoinery/JsonWriter"))).before a0 Z = true := hw _ (List.mem_of_getElem? (i := 178) rfl)
theorem pd_25 : parseMethodDescriptor "(J)Lcom/example/adjoinery/adjoinery/JsonWriter;" = some ⟨[.long], some (.object "com/example/adjoinery/adjoinery/JsonWriter")⟩ := by decide +kernel
theorem w174 {Z : State} {a0 : Array Value} (hw : ∀ d ∈ tables_1, d.before a0 Z = true) : (Jvm.Cond.methodLink "com/example/adjoinery/adjoinery/JsonWriterDrainPinLaw" (19 : Nat) ({ cls := "com/example/adjoinery/adjoinery/JsonWriter", name := "number", desc := "(J)Lcom/example/adjoinery/adjoinery/JsonWriter;" } : Jvm.MethodName)).before a0 Z = true := hw _ (List.mem_of_getElem? (i := 174) rfl)
theorem w177 {Z : State} {a0 : Array Value} (hw : ∀ d ∈ tables_1, d.before a0 Z = true) : (Jvm.Cond.selects "com/example/adjoinery/adjoinery/JsonWriter" ({ cls := "com/example/adjoinery/adjoinery/JsonWriter", name := "number", desc := "(J)Lcom/example/adjoinery/adjoinery/JsonWriter;" } : Jvm.MethodName) ({ cls := "com/example/adjoinery/adjoinery/JsonWriter", name := "number", desc := "(J)Lcom/example/adjoinery/adjoinery/JsonWriter;" } : Jvm.MethodName)).before a0 Z = true := hw _ (List.mem_of_getElem? (i := 177) rfl)
theorem w175 {Z : State} {a0 : Array Value} (hw : ∀ d ∈ tables_1, d.before a0 Z = true) : (Jvm.Cond.declares ({ cls := "com/example/adjoinery/adjoinery/JsonWriter", name := "number", desc := "(J)Lcom/example/adjoinery/adjoinery/JsonWriter;" } : Jvm.MethodName)).before a0 Z = true := hw _ (List.mem_of_getElem? (i := 175) rfl)
theorem w176 {Z : State} {a0 : Array Value} (hw : ∀ d ∈ tables_1, d.before a0 Z = true) : (Jvm.Cond.instanceMethod ({ cls := "com/example/adjoinery/adjoinery/JsonWriter", name := "number", desc := "(J)Lcom/example/adjoinery/adjoinery/JsonWriter;" } : Jvm.MethodName)).before a0 Z = true := hw _ (List.mem_of_getElem? (i := 176) rfl)
theorem w199 {Z : State} {a0 : Array Value} (hw : ∀ d ∈ tables_1, d.before a0 Z = true) : (Jvm.Cond.classLink "com/example/adjoinery/adjoinery/JsonWriterDrainPinLaw" (26 : Nat) "java/lang/String").before a0 Z = true := hw _ (List.mem_of_getElem? (i := 199) rfl)
theorem w200 {Z : State} {a0 : Array Value} (hw : ∀ d ∈ tables_1, d.before a0 Z = true) : (Jvm.Cond.arrayClass Jvm.ClassFile.FieldType.char).before a0 Z = true := hw _ (List.mem_of_getElem? (i := 200) rfl)
theorem pd_26 : parseMethodDescriptor "([C)V" = some ⟨[(.array .char)], none⟩ := by decide +kernel
theorem w201 {Z : State} {a0 : Array Value} (hw : ∀ d ∈ tables_1, d.before a0 Z = true) : (Jvm.Cond.methodLink "com/example/adjoinery/adjoinery/JsonWriterDrainPinLaw" (28 : Nat) ({ cls := "java/lang/String", name := "<init>", desc := "([C)V" } : Jvm.MethodName)).before a0 Z = true := hw _ (List.mem_of_getElem? (i := 201) rfl)
theorem w202 {Z : State} {a0 : Array Value} (hw : ∀ d ∈ tables_1, d.before a0 Z = true) : (Jvm.Cond.instanceMethod ({ cls := "java/lang/String", name := "<init>", desc := "([C)V" } : Jvm.MethodName)).before a0 Z = true := hw _ (List.mem_of_getElem? (i := 202) rfl)
theorem w203 {Z : State} {a0 : Array Value} (hw : ∀ d ∈ tables_1, d.before a0 Z = true) : (Jvm.Cond.code ({ cls := "java/lang/String", name := "<init>", desc := "([C)V" } : Jvm.MethodName) jdk_42_method_3_code (2 : Nat) (Option.none : Option Jvm.ClassFile.FieldType)).before a0 Z = true := hw _ (List.mem_of_getElem? (i := 203) rfl)
theorem d20_7 : decode prog_33_method_13_code 7 = .ok (.aload_n 0, 1) := by decide +kernel
theorem d20_8 : decode prog_33_method_13_code 8 = .ok (.getfield 10, 3) := by decide +kernel
theorem d20_11 : decode prog_33_method_13_code 11 = .ok (.bipush 44, 2) := by decide +kernel
theorem d20_13 : decode prog_33_method_13_code 13 = .ok (.invokevirtual 30, 3) := by decide +kernel
theorem d20_16 : decode prog_33_method_13_code 16 = .ok (.pop, 1) := by decide +kernel
theorem and255_chars (x : Int32) : ¬ nar .char ((x &&& (255 : Int32)).toUInt32.toUInt16.toUInt32.toInt32) < 0 ∧ ¬ (255 : Int32) < nar .char ((x &&& (255 : Int32)).toUInt32.toUInt16.toUInt32.toInt32) := by
  have t : ∀ k : Fin 256, ¬ nar .char ((Int32.ofNat k.val).toUInt32.toUInt16.toUInt32.toInt32) < 0 ∧ ¬ (255 : Int32) < nar .char ((Int32.ofNat k.val).toUInt32.toUInt16.toUInt32.toInt32) := by decide +kernel
  have h : (x &&& 255).toBitVec.toNat < 256 := by
    simp only [Int32.toBitVec_and, BitVec.toNat_and]
    exact Nat.lt_succ_of_le Nat.and_le_right
  have e : (x &&& 255) = Int32.ofNat (x &&& 255).toBitVec.toNat := by
    apply Int32.toBitVec_inj.mp
    show _ = BitVec.ofNat 32 _
    rw [BitVec.ofNat_toNat]; simp
  rw [e]
  exact t ⟨_, h⟩
theorem chars_nil : ∀ c ∈ ([] : List Int32), ¬ c < 0 ∧ ¬ (255 : Int32) < c := fun _ h => nomatch h
theorem chars_cons {c : Int32} {L : List Int32} (h : ¬ c < 0 ∧ ¬ (255 : Int32) < c) (r : ∀ c ∈ L, ¬ c < 0 ∧ ¬ (255 : Int32) < c) : ∀ d ∈ c :: L, ¬ d < 0 ∧ ¬ (255 : Int32) < d := fun d q => (List.mem_cons.mp q).elim (fun u => u ▸ h) (r d)
theorem words_in (hs : ∀ d ∈ StrChars.Road.words, d ∈ tables_1) {Z : State} {a0 : Array Value} (hw : ∀ d ∈ tables_1, d.before a0 Z = true) : ∀ d ∈ StrChars.Road.words, d.before a0 Z = true := fun d hd => hw d (hs d hd)
theorem str_words : ∀ d ∈ StrChars.Road.words, d ∈ tables_1 := by decide +kernel
/-- one digit -/
def Dg (d : Int32) : Prop := d ∈ ([0, 1, 2, 3, 4, 5, 6, 7, 8, 9] : List Int32)
theorem dg_all {d : Int32} {P : Int32 → Prop} (h : Dg d) (q : ∀ k ∈ ([0, 1, 2, 3, 4, 5, 6, 7, 8, 9] : List Int32), P k) : P d := q d h
theorem rem10 (x : Int32) : Dg ((x &&& (2147483647 : Int32)) % (10 : Int32)) := by
  have h0 : 0 ≤ (x &&& 2147483647).toInt := by
    rw [Int32.toInt, BitVec.toInt_eq_msb_cond]
    have : (x &&& (2147483647 : Int32)).toBitVec.msb = false := by
      show (x.toBitVec &&& (2147483647 : Int32).toBitVec).msb = false
      rw [BitVec.msb_and]
      rw [show ((2147483647 : Int32).toBitVec).msb = false from by decide, Bool.and_false]
    rw [this]; simp
  obtain ⟨y, hy⟩ : ∃ y, y = x &&& (2147483647 : Int32) := ⟨_, rfl⟩
  rw [← hy] at h0 ⊢
  have e : (y % (10 : Int32)).toInt = y.toInt.tmod 10 := Int32.toInt_mod y 10
  have b1 : 0 ≤ y.toInt.tmod 10 := Int.tmod_nonneg _ h0
  have b2 : y.toInt.tmod 10 < 10 := Int.tmod_lt_of_pos _ (by decide)
  rw [← e] at b1 b2
  obtain ⟨n, hn⟩ := Int.eq_ofNat_of_zero_le b1
  rw [hn] at b2
  have hlt : n < 10 := by omega
  have t : ∀ k : Nat, k < 10 → ∃ d ∈ ([0, 1, 2, 3, 4, 5, 6, 7, 8, 9] : List Int32), d.toInt = (k : Int) := by decide
  obtain ⟨d, hd, hk⟩ := t n hlt
  have : (y % (10 : Int32)) = d := Int32.toInt_inj.mp (by rw [hn, hk])
  rw [this]; exact hd
theorem foldl_stop {f : Nat → Option Bool} : ∀ (L : List Nat) (r : Option Bool), r ≠ some true → L.foldl (fun acc i => match acc with | some true => f i | x => x) r = r
  | [], _, _ => rfl
  | a :: L, none, hr => foldl_stop L none hr
  | a :: L, some false, hr => foldl_stop L (some false) hr
  | a :: L, some true, hr => absurd rfl hr
theorem foldl_all {f : Nat → Option Bool} : ∀ (L : List Nat), L.foldl (fun acc i => match acc with | some true => f i | x => x) (some true) = some true → ∀ i ∈ L, f i = some true
  | [], _, i, h => nomatch h
  | a :: L, h, i, hi => by
    rw [List.foldl_cons] at h
    by_cases q : f a = some true
    · have h' : L.foldl (fun acc i => match acc with | some true => f i | x => x) (f a) = some true := h
      rw [q] at h'
      rcases List.mem_cons.mp hi with rfl | hi
      · exact q
      · exact foldl_all L h' i hi
    · have h' : L.foldl (fun acc i => match acc with | some true => f i | x => x) (f a) = some true := h
      rw [foldl_stop L _ q] at h'; exact absurd h' q

def Q_asbinit (Z : State) (sb : Addr) (G1 : Int32) (h0 : Heap) (n0 : Nat) (vR : Option Value) (h : Heap) (L : List Loc) : Prop := ∃ (va : Addr) (kv : ClassId), vR = none ∧ Fr n0 L ∧ Keep h0 h [sb] ∧ n0 ≤ va ∧ h0.size ≤ va ∧ (Exa Z h sb cSB) ∧ (Fld Z h sb cAS "value" "[B" (.ref va)) ∧ (Fld Z h sb cAS "coder" "B" (.int 0)) ∧ (Fld Z h sb cAS "count" "I" (.int 0)) ∧ (Fld Z h sb cAS "maybeLatin1" "Z" (.int 0)) ∧ (Arv Z h va kv .byte (16 : Int32) [(.int 0), (.int 0)] (.int (0 : Int32)))
theorem ef_asbinit (m : MethodId) (x0 : Addr) (x1 : Int32) : entryFrame m #[(.ref x0), (.int x1)] 2 = mkF m 0 #[.val (.ref x0), .val (.int x1)] [] := by first | (simp [entryFrame, mkF, argsToLocals, Value.category]; done) | rfl
set_option maxRecDepth 65536 in
set_option maxHeartbeats 40000000 in
theorem rm_asbinit (l : Launch) (Z : State) (a0 : Array Value) (hw : ∀ d ∈ tables_1, d.before a0 Z = true) (ws : List Jvm.Cond) (sb : Addr) (G1 : Int32) (h0 : Heap) (n0 : Nat) (Z0 : n0 ≤ h0.size) (H0 : Exa Z h0 sb cSB) (H1 : Fld Z h0 sb cAS "value" "[B" .null) (H2 : Fld Z h0 sb cAS "coder" "B" (.int 0)) (H3 : Fld Z h0 sb cAS "count" "I" (.int 0)) (H4 : Fld Z h0 sb cAS "maybeLatin1" "Z" (.int 0)) (g_sb : n0 ≤ sb) (CS : Sta Z Z.heap "java/lang/String" "COMPACT_STRINGS" "Z" (.int G1)) (CSn : ¬ (G1 = (0 : Int32))) (O0 : Old Z n0 h0) :
    MetFree l mn2 (head1 (Jvm.Cond.code mn2 jdk_68_method_2_code 2 none :: ws) ({ frames := 1, cells := 1, slots := 16, locals := 12 } : Room)) (fun a U => a = #[(.ref sb), (.int 16)] ∧ Z.Warmed39 U.vm ∧ U.heap = h0) (fun _ _ _ _ _ => True) (fun _ U o U' => ∃ v L, o = .returned v ∧ Q_asbinit Z sb G1 h0 n0 v U'.heap L ∧ FrameEnd U o U' L ({ frames := 1, cells := 1, slots := 16, locals := 12 } : Room).cells ({ frames := 1, cells := 1, slots := 16, locals := 12 } : Room).slots) := by
  refine MetFree.of_bodySF (plainFor_of_name pn_java_lang_AbstractStringBuilder) hisR ?_
  intro p e s m args below meth c s₁ Bd hml0 hP hK
  obtain ⟨rfl, hZ, hh⟩ := hP
  have hx := Bd.exec
  have hby := Bd.bytes
  have hml : c.maxLocals = 2 := hml0
  have hown : s.vm.findClass "java/lang/AbstractStringBuilder" = some m.cls := findClass_of_methodNamed Bd.named
  have hnm := (name_of_methodNamed Bd.named Bd.method).1
  have X0 : Stand p l e ({ frames := 1, cells := 1, slots := 16, locals := 12 } : Room) s m #[(.ref sb), (.int 16)] below meth c s₁ [] 0 0 := Stand.of_body Bd
  have e0 : s₁.heap = h0 := by rw [← hh, Bd.state]; rfl
  have N0 := Fr.nil n0
  refine go_st (fun t k => castTop (ef_asbinit m sb (16 : Int32)) k) ?_
  show Go _ _ _ _ (s₁.setTop (mkF m 0 #[rv sb, iv 16] []))
  refine go_st (fun t k => XS.aloadN X0.here hx rfl (hb hby d2_0) rfl rfl k) ?_
  show Go _ _ _ _ (s₁.setTop (mkF m 1 #[rv sb, iv 16] [(.ref sb)]))
  obtain ⟨T1, X1, e1, st1⟩ := initO X0 hx hZ hown (w22 hw) (w8 hw) (w9 hw) e0 (g := (mkF m 1 #[rv sb, iv 16] [(.ref sb)])) rfl (by rw [hml]; rfl) rfl (hb hby d2_1) (by decide) (W := 0) (by show 2 * 0 + _ ≤ _; exact Nat.le_of_eq rfl) (by decide)
  refine go_st (fun t k => st1 t k) ?_
  show Go _ _ _ _ (T1.setTop (mkF m 4 #[rv sb, iv 16] []))
  obtain ⟨T2, X2, e2, st2⟩ := getS2 X1 hx hZ hown (host := "") (Or.inl (w23 hw)) Via.refl e1 (Sta.ext O0.2 CS) (g := (mkF m 4 #[rv sb, iv 16] [])) rfl (hb hby d2_4)
  refine go_st (fun t k => st2 t k) ?_
  show Go _ _ _ _ (T2.setTop (mkF m 7 #[rv sb, iv 16] [(.int G1)]))
  refine go_st (fun t k => XS.ifNo X2.here hx rfl (hb hby d2_7) rfl ((if0 _ _).trans (feq (CSn : ¬ (G1 = (0 : Int32)))).1) k) ?_
  show Go _ _ _ _ (T2.setTop (mkF m 10 #[rv sb, iv 16] []))
  refine go_st (fun t k => XS.aloadN X2.here hx rfl (hb hby d2_10) rfl rfl k) ?_
  refine go_st (fun t k => XS.iloadN X2.here hx rfl (hb hby d2_11) rfl k) ?_
  show Go _ _ _ _ (T2.setTop (mkF m 12 #[rv sb, iv 16] [(.int 16), (.ref sb)]))
  obtain ⟨T3, h3, kc3, X3, e3, E3, A3, st3⟩ := newP X2 hx hZ (aty := .byte) (w25 hw) e2 (g := (mkF m 12 #[rv sb, iv 16] [(.int 16), (.ref sb)])) rfl (hb hby d2_12) rfl (by decide) (cap := 16) (by decide) (by decide) (by decide) (by decide)
  obtain ⟨b3, gq3⟩ : ∃ z, z = h0.size := ⟨_, rfl⟩
  rw [← gq3] at A3 st3
  have f4 : Arv Z h3 b3 kc3 .byte (16 : Int32) [(.int 0), (.int 0)] (.int 0) := (Arv.new A3 (by decide)).pad (pad_rep [] (.int 0) 2)
  refine go_st (fun t k => st3 t k) ?_
  show Go _ _ _ _ (T3.setTop (mkF m 14 #[rv sb, iv 16] [(.ref b3), (.ref sb)]))
  have f5 : Fld Z h3 sb cAS "value" "[B" .null := (H1.ext E3)
  have f6 : Exa Z h3 sb cSB := (H0.ext E3)
  obtain ⟨T7, h7, X7, e7, W7, st7⟩ := putF X3 hx hZ hown (host := "") (Or.inl (w26 hw)) Via.refl e3 f5 f6 (Or.inl (w27 hw)) (w11 hw) (ty := (.array .byte)) (by decide) rfl rfl (g := (mkF m 14 #[rv sb, iv 16] [(.ref b3), (.ref sb)])) rfl rfl (hb hby d2_14)
  have N7 := Fr.snoc X7 N0 g_sb
  have f8 : Fld Z h7 sb cAS "value" "[B" (.ref b3) := f5.same W7
  refine go_st (fun t k => st7 t k) ?_
  refine go_st (fun t k => XS.aloadN X7.here hx rfl (hb hby d2_17) rfl rfl k) ?_
  refine go_st (fun t k => XS.iconst X7.here hx rfl (hb hby d2_18) k) ?_
  show Go _ _ _ _ (T7.setTop (mkF m 19 #[rv sb, iv 16] [(.int 0), (.ref sb)]))
  have f9 : Fld Z h7 sb cAS "coder" "B" (.int 0) := ((H2.ext E3).other W7 (Or.inr (slot_ne (Or.inl (w29 hw)) (Or.inl (w27 hw)) (by decide) (t := .byte) (t' := (.array .byte)) (by decide) (by decide))))
  have f10 : Exa Z h7 sb cSB := (f6.wr W7)
  obtain ⟨T11, h11, X11, e11, W11, st11⟩ := putFN X7 hx hZ hown (w28 hw) Via.refl e7 f9 f10 (Or.inl (w29 hw)) (w11 hw) (ty := .byte) (v' := (.int 0)) (by decide) rfl rfl (g := (mkF m 19 #[rv sb, iv 16] [(.int 0), (.ref sb)])) rfl rfl (hb hby d2_19)
  have N11 := Fr.snoc X11 N7 g_sb
  have f12 : Fld Z h11 sb cAS "coder" "B" (.int 0) := f9.same W11
  refine go_st (fun t k => st11 t k) ?_
  refine go_st (fun t k => XS.goto X11.here hx rfl (pc0 := 22) (pc' := 38) rfl (hb hby d2_22) (by decide) (by decide) k) ?_
  show Go _ _ _ _ (T11.setTop (mkF m 38 #[rv sb, iv 16] []))
  have g_b3 : n0 ≤ b3 := Nat.le_trans (Nat.le_trans Z0 (Nat.le_refl _)) (Nat.le_of_eq gq3.symm)
  have f13 : Exa Z h11 sb cSB := (f10.wr W11)
  have f14 : Fld Z h11 sb cAS "value" "[B" (.ref b3) := (f8.other W11 (Or.inr (slot_ne (Or.inl (w27 hw)) (Or.inl (w29 hw)) (by decide) (t := (.array .byte)) (t' := .byte) (by decide) (by decide))))
  have f15 : Fld Z h11 sb cAS "count" "I" (.int 0) := (((H3.ext E3).other W7 (Or.inr (slot_ne (Or.inl (w67 hw)) (Or.inl (w27 hw)) (by decide) (t := .int) (t' := (.array .byte)) (by decide) (by decide)))).other W11 (Or.inr (slot_ne (Or.inl (w67 hw)) (Or.inl (w29 hw)) (by decide) (t := .int) (t' := .byte) (by decide) (by decide))))
  have f16 : Fld Z h11 sb cAS "maybeLatin1" "Z" (.int 0) := (((H4.ext E3).other W7 (Or.inr (slot_ne (Or.inl (w139 hw)) (Or.inl (w27 hw)) (by decide) (t := .boolean) (t' := (.array .byte)) (by decide) (by decide)))).other W11 (Or.inr (slot_ne (Or.inl (w139 hw)) (Or.inl (w29 hw)) (by decide) (t := .boolean) (t' := .byte) (by decide) (by decide))))
  have nq17 : sb ≠ b3 := Nat.ne_of_lt (Nat.lt_of_lt_of_le (Nat.lt_of_lt_of_le H0.lt (Nat.le_refl _)) (Nat.le_of_eq gq3.symm))
  have f18 : Arv Z h11 b3 kc3 .byte (16 : Int32) [(.int 0), (.int 0)] (.int 0) := ((f4.other W7 (Ne.symm nq17)).other W11 (Ne.symm nq17))
  have ke19 : Keep h0 h3 [sb] := (Keep.ext (Keep.refl h0 [sb]) E3)
  have ke20 : Keep h0 h7 [sb] := (Keep.wr ke19 W7 (Or.inl (List.mem_of_getElem? (i := 0) rfl)))
  have ke21 : Keep h0 h11 [sb] := (Keep.wr ke20 W11 (Or.inl (List.mem_of_getElem? (i := 0) rfl)))
  obtain ⟨fs, hr, hrun, hended, hW, hsame⟩ := X11.leave (v := none) (fun _ => rfl)
  refine ⟨_, _, ?_, hrun, hended, _, _, rfl, ?_, ⟨_, rfl⟩, hW, hsame.mono (by decide) (by decide)⟩
  · exact X11.returnOut hx Bd.returns (hb hby d2_38) hr
  · show Q_asbinit _ _ _ _ _ _ T11.heap _
    rw [e11]
    exact ⟨b3, kc3, rfl, N11, ke21, g_b3, (Nat.le_of_eq gq3.symm), f13, f14, f12, f15, f16, f18⟩
def Q_sbinit (Z : State) (sb : Addr) (G1 : Int32) (h0 : Heap) (n0 : Nat) (vR : Option Value) (h : Heap) (L : List Loc) : Prop := ∃ (va : Addr) (kv : ClassId), vR = none ∧ Fr n0 L ∧ Keep h0 h [sb] ∧ n0 ≤ va ∧ h0.size ≤ va ∧ (Exa Z h sb cSB) ∧ (Fld Z h sb cAS "value" "[B" (.ref va)) ∧ (Fld Z h sb cAS "coder" "B" (.int 0)) ∧ (Fld Z h sb cAS "count" "I" (.int 0)) ∧ (Fld Z h sb cAS "maybeLatin1" "Z" (.int 0)) ∧ (Arv Z h va kv .byte (16 : Int32) [(.int 0), (.int 0)] (.int (0 : Int32)))
theorem ef_sbinit (m : MethodId) (x0 : Addr) : entryFrame m #[(.ref x0)] 1 = mkF m 0 #[.val (.ref x0)] [] := by first | (simp [entryFrame, mkF, argsToLocals, Value.category]; done) | rfl
set_option maxRecDepth 65536 in
set_option maxHeartbeats 40000000 in
theorem rm_sbinit (l : Launch) (Z : State) (a0 : Array Value) (hw : ∀ d ∈ tables_1, d.before a0 Z = true) (ws : List Jvm.Cond) (sb : Addr) (G1 : Int32) (h0 : Heap) (n0 : Nat) (Z0 : n0 ≤ h0.size) (H0 : Exa Z h0 sb cSB) (H1 : Fld Z h0 sb cAS "value" "[B" .null) (H2 : Fld Z h0 sb cAS "coder" "B" (.int 0)) (H3 : Fld Z h0 sb cAS "count" "I" (.int 0)) (H4 : Fld Z h0 sb cAS "maybeLatin1" "Z" (.int 0)) (g_sb : n0 ≤ sb) (CS : Sta Z Z.heap "java/lang/String" "COMPACT_STRINGS" "Z" (.int G1)) (CSn : ¬ (G1 = (0 : Int32))) (O0 : Old Z n0 h0) :
    MetFree l mn1 (head1 (Jvm.Cond.code mn1 jdk_67_method_1_code 1 none :: ws) ({ frames := 2, cells := 1, slots := 16, locals := 25 } : Room)) (fun a U => a = #[(.ref sb)] ∧ Z.Warmed39 U.vm ∧ U.heap = h0) (fun _ _ _ _ _ => True) (fun _ U o U' => ∃ v L, o = .returned v ∧ Q_sbinit Z sb G1 h0 n0 v U'.heap L ∧ FrameEnd U o U' L ({ frames := 2, cells := 1, slots := 16, locals := 25 } : Room).cells ({ frames := 2, cells := 1, slots := 16, locals := 25 } : Room).slots) := by
  refine MetFree.of_bodySF (plainFor_of_name pn_java_lang_StringBuilder) hisR ?_
  intro p e s m args below meth c s₁ Bd hml0 hP hK
  obtain ⟨rfl, hZ, hh⟩ := hP
  have hx := Bd.exec
  have hby := Bd.bytes
  have hml : c.maxLocals = 1 := hml0
  have hown : s.vm.findClass "java/lang/StringBuilder" = some m.cls := findClass_of_methodNamed Bd.named
  have hnm := (name_of_methodNamed Bd.named Bd.method).1
  have X0 : Stand p l e ({ frames := 2, cells := 1, slots := 16, locals := 25 } : Room) s m #[(.ref sb)] below meth c s₁ [] 0 0 := Stand.of_body Bd
  have e0 : s₁.heap = h0 := by rw [← hh, Bd.state]; rfl
  have N0 := Fr.nil n0
  refine go_st (fun t k => castTop (ef_sbinit m sb) k) ?_
  show Go _ _ _ _ (s₁.setTop (mkF m 0 #[rv sb] []))
  refine go_st (fun t k => XS.aloadN X0.here hx rfl (hb hby d1_0) rfl rfl k) ?_
  refine go_st (fun t k => XS.bipush X0.here hx rfl (hb hby d1_1) k) ?_
  show Go _ _ _ _ (s₁.setTop (mkF m 3 #[rv sb] [(.int 16), (.ref sb)]))
  obtain ⟨_, _, ⟨T1, L1, kk1, nn1⟩, -, X1, ⟨Lc1, hQ1, lq1, yq1, zq1⟩, st1⟩ := X0.specialBack hx (y := mn2) rfl hown (mvT hZ (w16 hw)) (mvT hZ (w17 hw)) (mvT hZ (w21 hw)) (by decide) (backOf (W := 0) (rm_asbinit l Z a0 hw [] sb G1 h0 n0 (Nat.le_trans Z0 (Nat.le_refl _)) H0 H1 H2 H3 H4 g_sb CS CSn O0) hZ (w21 hw) (w20 hw) (by decide) (by decide)) (g := (mkF m 3 #[rv sb] [(.int 16), (.ref sb)])) rfl (by rw [hml]; rfl) (Steps.refl _) (a := sb) (argsL := [(.int 16)]) (rest := []) (lenOf pd_0 rfl) rfl (by show 2 * 0 + _ ≤ _; exact Nat.le_of_eq rfl) (hb hby d1_3) (fun _ _ => ⟨rfl, e0, (by decide : 0 + 1 ≤ _), (by decide : 0 + 16 ≤ _)⟩)
  dsimp only [Pt.U, Pt.locs, Pt.cells, Pt.slots] at X1 lq1 yq1 zq1 st1 hQ1
  subst lq1 yq1 zq1
  obtain ⟨h1, e1⟩ : ∃ z, T1.heap = z := ⟨_, rfl⟩
  rw [e1] at hQ1
  obtain ⟨va_1, kv_1, rfl, N1q, K1, gf1_0, lf1_0, p1_1, p1_2, p1_3, p1_4, p1_5, p1_6⟩ := hQ1
  have N1 := Fr.app N0 N1q
  refine go_tr st1 ?_
  show Go _ _ _ _ (T1.setTop (mkF m 6 #[rv sb] []))
  have ke2 : Keep h0 h1 [sb] := (Keep.trans (Keep.refl h0 [sb]) K1 (allS (Or.inl (List.mem_of_getElem? (i := 0) rfl)) all0))
  obtain ⟨fs, hr, hrun, hended, hW, hsame⟩ := X1.leave (v := none) (fun _ => rfl)
  refine ⟨_, _, ?_, hrun, hended, _, _, rfl, ?_, ⟨_, rfl⟩, hW, hsame.mono (by decide) (by decide)⟩
  · exact X1.returnOut hx Bd.returns (hb hby d1_6) hr
  · show Q_sbinit _ _ _ _ _ _ T1.heap _
    rw [e1]
    exact ⟨va_1, kv_1, rfl, N1, ke2, gf1_0, lf1_0, p1_1, p1_2, p1_3, p1_4, p1_5, p1_6⟩
def Q_jinit (Z : State) (jw : Addr) (G1 : Int32) (h0 : Heap) (n0 : Nat) (vR : Option Value) (h : Heap) (L : List Loc) : Prop := ∃ (sb : Addr) (va : Addr) (kv : ClassId), vR = none ∧ Fr n0 L ∧ Keep h0 h [jw] ∧ n0 ≤ sb ∧ h0.size ≤ sb ∧ n0 ≤ va ∧ h0.size ≤ va ∧ (Exa Z h jw cJW) ∧ (Fld Z h jw cJW "text" "Ljava/lang/StringBuilder;" (.ref sb)) ∧ (Fld Z h jw cJW "afterValue" "Z" (.int 0)) ∧ (Exa Z h sb cSB) ∧ (Fld Z h sb cAS "value" "[B" (.ref va)) ∧ (Fld Z h sb cAS "coder" "B" (.int 0)) ∧ (Fld Z h sb cAS "count" "I" (.int 0)) ∧ (Fld Z h sb cAS "maybeLatin1" "Z" (.int 0)) ∧ (Arv Z h va kv .byte (16 : Int32) [(.int 0), (.int 0)] (.int (0 : Int32)))
theorem ef_jinit (m : MethodId) (x0 : Addr) : entryFrame m #[(.ref x0)] 1 = mkF m 0 #[.val (.ref x0)] [] := by first | (simp [entryFrame, mkF, argsToLocals, Value.category]; done) | rfl
set_option maxRecDepth 65536 in
set_option maxHeartbeats 40000000 in
theorem rm_jinit (l : Launch) (Z : State) (a0 : Array Value) (hw : ∀ d ∈ tables_1, d.before a0 Z = true) (ws : List Jvm.Cond) (jw : Addr) (G1 : Int32) (h0 : Heap) (n0 : Nat) (Z0 : n0 ≤ h0.size) (H0 : Exa Z h0 jw cJW) (H1 : Fld Z h0 jw cJW "text" "Ljava/lang/StringBuilder;" .null) (H2 : Fld Z h0 jw cJW "afterValue" "Z" (.int 0)) (g_jw : n0 ≤ jw) (CS : Sta Z Z.heap "java/lang/String" "COMPACT_STRINGS" "Z" (.int G1)) (CSn : ¬ (G1 = (0 : Int32))) (O0 : Old Z n0 h0) :
    MetFree l mn0 (head1 (Jvm.Cond.code mn0 prog_33_method_1_code 1 none :: ws) ({ frames := 3, cells := 2, slots := 20, locals := 39 } : Room)) (fun a U => a = #[(.ref jw)] ∧ Z.Warmed39 U.vm ∧ U.heap = h0) (fun _ _ _ _ _ => True) (fun _ U o U' => ∃ v L, o = .returned v ∧ Q_jinit Z jw G1 h0 n0 v U'.heap L ∧ FrameEnd U o U' L ({ frames := 3, cells := 2, slots := 20, locals := 39 } : Room).cells ({ frames := 3, cells := 2, slots := 20, locals := 39 } : Room).slots) := by
  refine MetFree.of_bodySF (plainFor_of_name pn_com_example_adjoinery_adjoinery_JsonWriter) hisR ?_
  intro p e s m args below meth c s₁ Bd hml0 hP hK
  obtain ⟨rfl, hZ, hh⟩ := hP
  have hx := Bd.exec
  have hby := Bd.bytes
  have hml : c.maxLocals = 1 := hml0
  have hown : s.vm.findClass "com/example/adjoinery/adjoinery/JsonWriter" = some m.cls := findClass_of_methodNamed Bd.named
  have hnm := (name_of_methodNamed Bd.named Bd.method).1
  have X0 : Stand p l e ({ frames := 3, cells := 2, slots := 20, locals := 39 } : Room) s m #[(.ref jw)] below meth c s₁ [] 0 0 := Stand.of_body Bd
  have e0 : s₁.heap = h0 := by rw [← hh, Bd.state]; rfl
  have N0 := Fr.nil n0
  refine go_st (fun t k => castTop (ef_jinit m jw) k) ?_
  show Go _ _ _ _ (s₁.setTop (mkF m 0 #[rv jw] []))
  refine go_st (fun t k => XS.aloadN X0.here hx rfl (hb hby d0_0) rfl rfl k) ?_
  show Go _ _ _ _ (s₁.setTop (mkF m 1 #[rv jw] [(.ref jw)]))
  obtain ⟨T1, X1, e1, st1⟩ := initO X0 hx hZ hown (w7 hw) (w8 hw) (w9 hw) e0 (g := (mkF m 1 #[rv jw] [(.ref jw)])) rfl (by rw [hml]; rfl) rfl (hb hby d0_1) (by decide) (W := 0) (by show 2 * 0 + _ ≤ _; exact Nat.le_of_eq rfl) (by decide)
  refine go_st (fun t k => st1 t k) ?_
  refine go_st (fun t k => XS.aloadN X1.here hx rfl (hb hby d0_4) rfl rfl k) ?_
  show Go _ _ _ _ (T1.setTop (mkF m 5 #[rv jw] [(.ref jw)]))
  obtain ⟨T2, h2, X2, e2, E2, A2, D2, -, st2⟩ := newO X1 hx hZ hown (w10 hw) (w11 hw) (w12 hw) e1 (g := (mkF m 5 #[rv jw] [(.ref jw)])) rfl (hb hby d0_5) (by decide) (by decide)
  obtain ⟨b2, gq2⟩ : ∃ z, z = h0.size := ⟨_, rfl⟩
  rw [← gq2] at A2 D2 st2
  have f3 : Fld Z h2 b2 cAS "value" "[B" .null := D2 (Or.inl (w27 hw)) (ty := (.array .byte)) (by decide)
  have f4 : Fld Z h2 b2 cAS "coder" "B" (.int 0) := D2 (Or.inl (w29 hw)) (ty := .byte) (by decide)
  have f5 : Fld Z h2 b2 cAS "count" "I" (.int 0) := D2 (Or.inl (w67 hw)) (ty := .int) (by decide)
  have f6 : Fld Z h2 b2 cAS "maybeLatin1" "Z" (.int 0) := D2 (Or.inl (w139 hw)) (ty := .boolean) (by decide)
  refine go_st (fun t k => st2 t k) ?_
  refine go_st (fun t k => XS.dup X2.here hx rfl (hb hby d0_8) rfl rfl k) ?_
  show Go _ _ _ _ (T2.setTop (mkF m 9 #[rv jw] [(.ref b2), (.ref b2), (.ref jw)]))
  have g_b2 : n0 ≤ b2 := Nat.le_trans (Nat.le_trans Z0 (Nat.le_refl _)) (Nat.le_of_eq gq2.symm)
  have oe7 : Old Z n0 h2 := (Old.ext O0 E2)
  obtain ⟨_, _, ⟨T8, L8, kk8, nn8⟩, -, X8, ⟨Lc8, hQ8, lq8, yq8, zq8⟩, st8⟩ := X2.specialBack hx (y := mn1) rfl hown (mvT hZ (w13 hw)) (mvT hZ (w14 hw)) (mvT hZ (w15 hw)) (by decide) (backOf (W := 2) (rm_sbinit l Z a0 hw [] b2 G1 h2 n0 (Nat.le_trans Z0 E2.1) A2 f3 f4 f5 f6 g_b2 CS CSn oe7) hZ (w15 hw) (w12 hw) (by decide) (by decide)) (g := (mkF m 9 #[rv jw] [(.ref b2), (.ref b2), (.ref jw)])) rfl (by rw [hml]; rfl) (Steps.refl _) (a := b2) (argsL := []) (rest := [(.ref b2), (.ref jw)]) (lenOf pd_1 rfl) rfl (by show 2 * 0 + _ ≤ _; exact Nat.le_of_eq rfl) (hb hby d0_9) (fun _ _ => ⟨rfl, e2, (by decide : 1 + 1 ≤ _), (by decide : 4 + 16 ≤ _)⟩)
  dsimp only [Pt.U, Pt.locs, Pt.cells, Pt.slots] at X8 lq8 yq8 zq8 st8 hQ8
  subst lq8 yq8 zq8
  obtain ⟨h8, e8⟩ : ∃ z, T8.heap = z := ⟨_, rfl⟩
  rw [e8] at hQ8
  obtain ⟨va_8, kv_8, rfl, N8q, K8, gf8_0, lf8_0, p8_1, p8_2, p8_3, p8_4, p8_5, p8_6⟩ := hQ8
  have N8 := Fr.app N0 N8q
  refine go_tr st8 ?_
  show Go _ _ _ _ (T8.setTop (mkF m 12 #[rv jw] [(.ref b2), (.ref jw)]))
  have nq9 : jw ≠ b2 := Nat.ne_of_lt (Nat.lt_of_lt_of_le (Nat.lt_of_lt_of_le H0.lt (Nat.le_refl _)) (Nat.le_of_eq gq2.symm))
  have f10 : Fld Z h8 jw cJW "text" "Ljava/lang/StringBuilder;" .null := ((H1.ext E2).keep K8 (ninS nq9 nin0))
  have f11 : Exa Z h8 jw cJW := ((H0.ext E2).keep K8)
  obtain ⟨T12, h12, X12, e12, W12, st12⟩ := putF X8 hx hZ hown (host := "") (Or.inl (w30 hw)) Via.refl e8 f10 f11 (Or.inr ⟨(w31 hw), rfl, hnm⟩) (w2 hw) (ty := (.object "java/lang/StringBuilder")) (by decide) rfl rfl (g := (mkF m 12 #[rv jw] [(.ref b2), (.ref jw)])) rfl rfl (hb hby d0_12)
  have N12 := Fr.snoc X12 N8 g_jw
  have f13 : Fld Z h12 jw cJW "text" "Ljava/lang/StringBuilder;" (.ref b2) := f10.same W12
  refine go_st (fun t k => st12 t k) ?_
  show Go _ _ _ _ (T12.setTop (mkF m 15 #[rv jw] []))
  have f14 : Exa Z h12 jw cJW := (f11.wr W12)
  have f15 : Fld Z h12 jw cJW "afterValue" "Z" (.int 0) := (((H2.ext E2).keep K8 (ninS nq9 nin0)).other W12 (Or.inr (slot_ne (Or.inl (w123 hw)) (Or.inr (w31 hw)) (by decide) (t := .boolean) (t' := (.object "java/lang/StringBuilder")) (by decide) (by decide))))
  have f16 : Exa Z h12 b2 cSB := (p8_1.wr W12)
  have f17 : Fld Z h12 b2 cAS "value" "[B" (.ref va_8) := (p8_2.other W12 (Or.inl (Ne.symm nq9)))
  have f18 : Fld Z h12 b2 cAS "coder" "B" (.int 0) := (p8_3.other W12 (Or.inl (Ne.symm nq9)))
  have f19 : Fld Z h12 b2 cAS "count" "I" (.int 0) := (p8_4.other W12 (Or.inl (Ne.symm nq9)))
  have f20 : Fld Z h12 b2 cAS "maybeLatin1" "Z" (.int 0) := (p8_5.other W12 (Or.inl (Ne.symm nq9)))
  have nq21 : jw ≠ va_8 := Nat.ne_of_lt (Nat.lt_of_lt_of_le (Nat.lt_of_lt_of_le H0.lt E2.1) lf8_0)
  have f22 : Arv Z h12 va_8 kv_8 .byte (16 : Int32) [(.int 0), (.int 0)] (.int (0 : Int32)) := (p8_6.other W12 (Ne.symm nq21))
  have ke23 : Keep h0 h2 [jw] := (Keep.ext (Keep.refl h0 [jw]) E2)
  have ke24 : Keep h0 h8 [jw] := (Keep.trans ke23 K8 (allS (Or.inr (Nat.le_of_eq gq2.symm)) all0))
  have ke25 : Keep h0 h12 [jw] := (Keep.wr ke24 W12 (Or.inl (List.mem_of_getElem? (i := 0) rfl)))
  obtain ⟨fs, hr, hrun, hended, hW, hsame⟩ := X12.leave (v := none) (fun _ => rfl)
  refine ⟨_, _, ?_, hrun, hended, _, _, rfl, ?_, ⟨_, rfl⟩, hW, hsame.mono (by decide) (by decide)⟩
  · exact X12.returnOut hx Bd.returns (hb hby d0_15) hr
  · show Q_jinit _ _ _ _ _ _ T12.heap _
    rw [e12]
    exact ⟨b2, va_8, kv_8, rfl, N12, ke25, g_b2, (Nat.le_of_eq gq2.symm), gf8_0, (Nat.le_trans E2.1 lf8_0), f14, f13, f15, f16, f17, f18, f19, f20, f22⟩
def Q_getv (Z : State) (sb : Addr) (va : Addr) (h0 : Heap) (n0 : Nat) (vR : Option Value) (h : Heap) (L : List Loc) : Prop := vR = some (.ref va) ∧ Fr n0 L ∧ h = h0
theorem ef_getv (m : MethodId) (x0 : Addr) : entryFrame m #[(.ref x0)] 1 = mkF m 0 #[.val (.ref x0)] [] := by first | (simp [entryFrame, mkF, argsToLocals, Value.category]; done) | rfl
set_option maxRecDepth 65536 in
set_option maxHeartbeats 40000000 in
theorem rm_getv (l : Launch) (Z : State) (a0 : Array Value) (hw : ∀ d ∈ tables_1, d.before a0 Z = true) (ws : List Jvm.Cond) (sb : Addr) (va : Addr) (h0 : Heap) (n0 : Nat) (Z0 : n0 ≤ h0.size) (H0 : Fld Z h0 sb cAS "value" "[B" (.ref va)) :
    MetFree l mn7 (head1 (Jvm.Cond.code mn7 jdk_68_method_64_code 1 (some (.array .byte)) :: ws) ({ frames := 0, cells := 0, slots := 0, locals := 0 } : Room)) (fun a U => a = #[(.ref sb)] ∧ Z.Warmed39 U.vm ∧ U.heap = h0) (fun _ _ _ _ _ => True) (fun _ U o U' => ∃ v L, o = .returned v ∧ Q_getv Z sb va h0 n0 v U'.heap L ∧ FrameEnd U o U' L ({ frames := 0, cells := 0, slots := 0, locals := 0 } : Room).cells ({ frames := 0, cells := 0, slots := 0, locals := 0 } : Room).slots) := by
  refine MetFree.of_bodySF (plainFor_of_name pn_java_lang_AbstractStringBuilder) hisR ?_
  intro p e s m args below meth c s₁ Bd hml0 hP hK
  obtain ⟨rfl, hZ, hh⟩ := hP
  have hx := Bd.exec
  have hby := Bd.bytes
  have hml : c.maxLocals = 1 := hml0
  have hown : s.vm.findClass "java/lang/AbstractStringBuilder" = some m.cls := findClass_of_methodNamed Bd.named
  have hnm := (name_of_methodNamed Bd.named Bd.method).1
  have X0 : Stand p l e ({ frames := 0, cells := 0, slots := 0, locals := 0 } : Room) s m #[(.ref sb)] below meth c s₁ [] 0 0 := Stand.of_body Bd
  have e0 : s₁.heap = h0 := by rw [← hh, Bd.state]; rfl
  have N0 := Fr.nil n0
  refine go_st (fun t k => castTop (ef_getv m sb) k) ?_
  show Go _ _ _ _ (s₁.setTop (mkF m 0 #[rv sb] []))
  refine go_st (fun t k => XS.aloadN X0.here hx rfl (hb hby d7_0) rfl rfl k) ?_
  show Go _ _ _ _ (s₁.setTop (mkF m 1 #[rv sb] [(.ref sb)]))
  obtain ⟨T1, X1, e1, st1⟩ := getF X0 hx hZ hown (host := "") (Or.inl (w26 hw)) Via.refl e0 H0 (g := (mkF m 1 #[rv sb] [(.ref sb)])) rfl rfl (hb hby d7_1)
  refine go_st (fun t k => st1 t k) ?_
  show Go _ _ _ _ (T1.setTop (mkF m 4 #[rv sb] [(.ref va)]))
  obtain ⟨fs, hr, hrun, hended, hW, hsame⟩ := X1.leave (v := some (.ref va)) (fun h => by rw [Bd.returns] at h; cases h)
  refine ⟨_, _, ?_, hrun, hended, _, _, rfl, ?_, ⟨_, rfl⟩, hW, hsame.mono (by decide) (by decide)⟩
  · exact retOut X1 hx Bd.returns rfl (Or.inr (Or.inr (Or.inr (Or.inr ⟨rfl, rfl, rfl⟩)))) (hb hby d7_4) hr
  · show Q_getv _ _ _ _ _ _ T1.heap _
    rw [e1]
    exact ⟨rfl, N0, rfl⟩
def Q_asb_len0 (Z : State) (sb : Addr) (h0 : Heap) (n0 : Nat) (vR : Option Value) (h : Heap) (L : List Loc) : Prop := vR = some (.int 0) ∧ Fr n0 L ∧ h = h0
theorem ef_asb_len0 (m : MethodId) (x0 : Addr) : entryFrame m #[(.ref x0)] 1 = mkF m 0 #[.val (.ref x0)] [] := by first | (simp [entryFrame, mkF, argsToLocals, Value.category]; done) | rfl
set_option maxRecDepth 65536 in
set_option maxHeartbeats 40000000 in
theorem rm_asb_len0 (l : Launch) (Z : State) (a0 : Array Value) (hw : ∀ d ∈ tables_1, d.before a0 Z = true) (ws : List Jvm.Cond) (sb : Addr) (h0 : Heap) (n0 : Nat) (Z0 : n0 ≤ h0.size) (H0 : Exa Z h0 sb cSB) (H1 : Fld Z h0 sb cAS "count" "I" (.int 0)) :
    MetFree l mn9 (head1 (Jvm.Cond.code mn9 jdk_68_method_6_code 1 (some .int) :: ws) ({ frames := 0, cells := 0, slots := 0, locals := 0 } : Room)) (fun a U => a = #[(.ref sb)] ∧ Z.Warmed39 U.vm ∧ U.heap = h0) (fun _ _ _ _ _ => True) (fun _ U o U' => ∃ v L, o = .returned v ∧ Q_asb_len0 Z sb h0 n0 v U'.heap L ∧ FrameEnd U o U' L ({ frames := 0, cells := 0, slots := 0, locals := 0 } : Room).cells ({ frames := 0, cells := 0, slots := 0, locals := 0 } : Room).slots) := by
  refine MetFree.of_bodySF (plainFor_of_name pn_java_lang_AbstractStringBuilder) hisR ?_
  intro p e s m args below meth c s₁ Bd hml0 hP hK
  obtain ⟨rfl, hZ, hh⟩ := hP
  have hx := Bd.exec
  have hby := Bd.bytes
  have hml : c.maxLocals = 1 := hml0
  have hown : s.vm.findClass "java/lang/AbstractStringBuilder" = some m.cls := findClass_of_methodNamed Bd.named
  have hnm := (name_of_methodNamed Bd.named Bd.method).1
  have X0 : Stand p l e ({ frames := 0, cells := 0, slots := 0, locals := 0 } : Room) s m #[(.ref sb)] below meth c s₁ [] 0 0 := Stand.of_body Bd
  have e0 : s₁.heap = h0 := by rw [← hh, Bd.state]; rfl
  have N0 := Fr.nil n0
  refine go_st (fun t k => castTop (ef_asb_len0 m sb) k) ?_
  show Go _ _ _ _ (s₁.setTop (mkF m 0 #[rv sb] []))
  refine go_st (fun t k => XS.aloadN X0.here hx rfl (hb hby d9_0) rfl rfl k) ?_
  show Go _ _ _ _ (s₁.setTop (mkF m 1 #[rv sb] [(.ref sb)]))
  obtain ⟨T1, X1, e1, st1⟩ := getF X0 hx hZ hown (host := "") (Or.inl (w66 hw)) Via.refl e0 H1 (g := (mkF m 1 #[rv sb] [(.ref sb)])) rfl rfl (hb hby d9_1)
  refine go_st (fun t k => st1 t k) ?_
  show Go _ _ _ _ (T1.setTop (mkF m 4 #[rv sb] [(.int 0)]))
  obtain ⟨fs, hr, hrun, hended, hW, hsame⟩ := X1.leave (v := some (.int 0)) (fun h => by rw [Bd.returns] at h; cases h)
  refine ⟨_, _, ?_, hrun, hended, _, _, rfl, ?_, ⟨_, rfl⟩, hW, hsame.mono (by decide) (by decide)⟩
  · exact retI X1 hx Bd.returns (hb hby d9_4) hr
  · show Q_asb_len0 _ _ _ _ _ T1.heap _
    rw [e1]
    exact ⟨rfl, N0, rfl⟩
def Q_sb_len0 (Z : State) (sb : Addr) (h0 : Heap) (n0 : Nat) (vR : Option Value) (h : Heap) (L : List Loc) : Prop := vR = some (.int 0) ∧ Fr n0 L ∧ h = h0
theorem ef_sb_len0 (m : MethodId) (x0 : Addr) : entryFrame m #[(.ref x0)] 1 = mkF m 0 #[.val (.ref x0)] [] := by first | (simp [entryFrame, mkF, argsToLocals, Value.category]; done) | rfl
set_option maxRecDepth 65536 in
set_option maxHeartbeats 40000000 in
theorem rm_sb_len0 (l : Launch) (Z : State) (a0 : Array Value) (hw : ∀ d ∈ tables_1, d.before a0 Z = true) (ws : List Jvm.Cond) (sb : Addr) (h0 : Heap) (n0 : Nat) (Z0 : n0 ≤ h0.size) (H0 : Exa Z h0 sb cSB) (H1 : Fld Z h0 sb cAS "count" "I" (.int 0)) :
    MetFree l mn8 (head1 (Jvm.Cond.code mn8 jdk_67_method_93_code 1 (some .int) :: ws) ({ frames := 1, cells := 0, slots := 0, locals := 12 } : Room)) (fun a U => a = #[(.ref sb)] ∧ Z.Warmed39 U.vm ∧ U.heap = h0) (fun _ _ _ _ _ => True) (fun _ U o U' => ∃ v L, o = .returned v ∧ Q_sb_len0 Z sb h0 n0 v U'.heap L ∧ FrameEnd U o U' L ({ frames := 1, cells := 0, slots := 0, locals := 12 } : Room).cells ({ frames := 1, cells := 0, slots := 0, locals := 12 } : Room).slots) := by
  refine MetFree.of_bodySF (plainFor_of_name pn_java_lang_StringBuilder) hisR ?_
  intro p e s m args below meth c s₁ Bd hml0 hP hK
  obtain ⟨rfl, hZ, hh⟩ := hP
  have hx := Bd.exec
  have hby := Bd.bytes
  have hml : c.maxLocals = 1 := hml0
  have hown : s.vm.findClass "java/lang/StringBuilder" = some m.cls := findClass_of_methodNamed Bd.named
  have hnm := (name_of_methodNamed Bd.named Bd.method).1
  have X0 : Stand p l e ({ frames := 1, cells := 0, slots := 0, locals := 12 } : Room) s m #[(.ref sb)] below meth c s₁ [] 0 0 := Stand.of_body Bd
  have e0 : s₁.heap = h0 := by rw [← hh, Bd.state]; rfl
  have N0 := Fr.nil n0
  refine go_st (fun t k => castTop (ef_sb_len0 m sb) k) ?_
  show Go _ _ _ _ (s₁.setTop (mkF m 0 #[rv sb] []))
  refine go_st (fun t k => XS.aloadN X0.here hx rfl (hb hby d8_0) rfl rfl k) ?_
  show Go _ _ _ _ (s₁.setTop (mkF m 1 #[rv sb] [(.ref sb)]))
  obtain ⟨_, _, ⟨T1, L1, kk1, nn1⟩, -, X1, ⟨Lc1, hQ1, lq1, yq1, zq1⟩, st1⟩ := superBack X0 hx hZ (y := mn9) hown (w63 hw) (same_self (w59 hw) (nf_same (y := mn9) (y' := mn7) rfl (w54 hw) (notFace_of_selects (w55 hw))) (by decide)) (w59 hw) (w64 hw) (by decide) (backOf (W := 0) (rm_asb_len0 l Z a0 hw [] sb h0 n0 (Nat.le_trans Z0 (Nat.le_refl _)) H0 H1) hZ (w65 hw) (w20 hw) (by decide) (by decide)) e0 (a := sb) (Ins.self H0) (g := (mkF m 1 #[rv sb] [(.ref sb)])) rfl (by rw [hml]; rfl) (w65 hw) (argsL := []) (rest := []) (lenOf pd_3 rfl) rfl (by show 2 * 0 + _ ≤ _; exact Nat.le_of_eq rfl) (hb hby d8_1) (fun _ _ => ⟨rfl, e0, (by decide : 0 + 0 ≤ _), (by decide : 0 + 0 ≤ _)⟩)
  dsimp only [Pt.U, Pt.locs, Pt.cells, Pt.slots] at X1 lq1 yq1 zq1 st1 hQ1
  subst lq1 yq1 zq1
  obtain ⟨h1, e1⟩ : ∃ z, T1.heap = z := ⟨_, rfl⟩
  rw [e1] at hQ1
  obtain ⟨rfl, N1q, he1⟩ := hQ1
  have N1 := Fr.app N0 N1q
  rw [he1] at e1
  refine go_tr st1 ?_
  show Go _ _ _ _ (T1.setTop (mkF m 4 #[rv sb] [(.int 0)]))
  obtain ⟨fs, hr, hrun, hended, hW, hsame⟩ := X1.leave (v := some (.int 0)) (fun h => by rw [Bd.returns] at h; cases h)
  refine ⟨_, _, ?_, hrun, hended, _, _, rfl, ?_, ⟨_, rfl⟩, hW, hsame.mono (by decide) (by decide)⟩
  · exact retI X1 hx Bd.returns (hb hby d8_4) hr
  · show Q_sb_len0 _ _ _ _ _ T1.heap _
    rw [e1]
    exact ⟨rfl, N1, rfl⟩
def Q_isl (Z : State) (sb : Addr) (G1 : Int32) (h0 : Heap) (n0 : Nat) (vR : Option Value) (h : Heap) (L : List Loc) : Prop := vR = some (.int 1) ∧ Fr n0 L ∧ h = h0
theorem ef_isl (m : MethodId) (x0 : Addr) : entryFrame m #[(.ref x0)] 1 = mkF m 0 #[.val (.ref x0)] [] := by first | (simp [entryFrame, mkF, argsToLocals, Value.category]; done) | rfl
set_option maxRecDepth 65536 in
set_option maxHeartbeats 40000000 in
theorem rm_isl (l : Launch) (Z : State) (a0 : Array Value) (hw : ∀ d ∈ tables_1, d.before a0 Z = true) (ws : List Jvm.Cond) (sb : Addr) (G1 : Int32) (h0 : Heap) (n0 : Nat) (Z0 : n0 ≤ h0.size) (H0 : Fld Z h0 sb cAS "coder" "B" (.int 0)) (CS : Sta Z Z.heap "java/lang/String" "COMPACT_STRINGS" "Z" (.int G1)) (CSn : ¬ (G1 = (0 : Int32))) (O0 : Old Z n0 h0) :
    MetFree l mn10 (head1 (Jvm.Cond.code mn10 jdk_68_method_68_code 1 (some .boolean) :: ws) ({ frames := 0, cells := 0, slots := 0, locals := 0 } : Room)) (fun a U => a = #[(.ref sb)] ∧ Z.Warmed39 U.vm ∧ U.heap = h0) (fun _ _ _ _ _ => True) (fun _ U o U' => ∃ v L, o = .returned v ∧ Q_isl Z sb G1 h0 n0 v U'.heap L ∧ FrameEnd U o U' L ({ frames := 0, cells := 0, slots := 0, locals := 0 } : Room).cells ({ frames := 0, cells := 0, slots := 0, locals := 0 } : Room).slots) := by
  refine MetFree.of_bodySF (plainFor_of_name pn_java_lang_AbstractStringBuilder) hisR ?_
  intro p e s m args below meth c s₁ Bd hml0 hP hK
  obtain ⟨rfl, hZ, hh⟩ := hP
  have hx := Bd.exec
  have hby := Bd.bytes
  have hml : c.maxLocals = 1 := hml0
  have hown : s.vm.findClass "java/lang/AbstractStringBuilder" = some m.cls := findClass_of_methodNamed Bd.named
  have hnm := (name_of_methodNamed Bd.named Bd.method).1
  have X0 : Stand p l e ({ frames := 0, cells := 0, slots := 0, locals := 0 } : Room) s m #[(.ref sb)] below meth c s₁ [] 0 0 := Stand.of_body Bd
  have e0 : s₁.heap = h0 := by rw [← hh, Bd.state]; rfl
  have N0 := Fr.nil n0
  refine go_st (fun t k => castTop (ef_isl m sb) k) ?_
  show Go _ _ _ _ (s₁.setTop (mkF m 0 #[rv sb] []))
  obtain ⟨T1, X1, e1, st1⟩ := getS2 X0 hx hZ hown (host := "") (Or.inl (w23 hw)) Via.refl e0 (Sta.ext O0.2 CS) (g := (mkF m 0 #[rv sb] [])) rfl (hb hby d10_0)
  refine go_st (fun t k => st1 t k) ?_
  show Go _ _ _ _ (T1.setTop (mkF m 3 #[rv sb] [(.int G1)]))
  refine go_st (fun t k => XS.ifNo X1.here hx rfl (hb hby d10_3) rfl ((if0 _ _).trans (feq (CSn : ¬ (G1 = (0 : Int32)))).1) k) ?_
  show Go _ _ _ _ (T1.setTop (mkF m 6 #[rv sb] []))
  refine go_st (fun t k => XS.aloadN X1.here hx rfl (hb hby d10_6) rfl rfl k) ?_
  show Go _ _ _ _ (T1.setTop (mkF m 7 #[rv sb] [(.ref sb)]))
  obtain ⟨T2, X2, e2, st2⟩ := getF X1 hx hZ hown (host := "") (Or.inl (w28 hw)) Via.refl e1 H0 (g := (mkF m 7 #[rv sb] [(.ref sb)])) rfl rfl (hb hby d10_7)
  refine go_st (fun t k => st2 t k) ?_
  show Go _ _ _ _ (T2.setTop (mkF m 10 #[rv sb] [(.int 0)]))
  refine go_st (fun t k => XS.ifNo X2.here hx rfl (hb hby d10_10) rfl ((if0 _ _).trans (teq ((by decide) : (0 : Int32) = (0 : Int32))).2) k) ?_
  show Go _ _ _ _ (T2.setTop (mkF m 13 #[rv sb] []))
  refine go_st (fun t k => XS.iconst X2.here hx rfl (hb hby d10_13) k) ?_
  refine go_st (fun t k => XS.goto X2.here hx rfl (pc0 := 14) (pc' := 18) rfl (hb hby d10_14) (by decide) (by decide) k) ?_
  show Go _ _ _ _ (T2.setTop (mkF m 18 #[rv sb] [(.int 1)]))
  obtain ⟨fs, hr, hrun, hended, hW, hsame⟩ := X2.leave (v := some (.int 1)) (fun h => by rw [Bd.returns] at h; cases h)
  refine ⟨_, _, ?_, hrun, hended, _, _, rfl, ?_, ⟨_, rfl⟩, hW, hsame.mono (by decide) (by decide)⟩
  · exact retN X2 hx (t := .boolean) Bd.returns (by simp) (hb hby d10_18) hr
  · show Q_isl _ _ _ _ _ _ T2.heap _
    rw [e2]
    exact ⟨rfl, N0, rfl⟩
def Q_chk0 (Z : State)  (h0 : Heap) (n0 : Nat) (vR : Option Value) (h : Heap) (L : List Loc) : Prop := vR = none ∧ Fr n0 L ∧ h = h0
theorem ef_chk0 (m : MethodId) (x0 : Int32) (x1 : Int32) : entryFrame m #[(.int x0), (.int x1)] 2 = mkF m 0 #[.val (.int x0), .val (.int x1)] [] := by first | (simp [entryFrame, mkF, argsToLocals, Value.category]; done) | rfl
set_option maxRecDepth 65536 in
set_option maxHeartbeats 40000000 in
theorem rm_chk0 (l : Launch) (Z : State) (a0 : Array Value) (hw : ∀ d ∈ tables_1, d.before a0 Z = true) (ws : List Jvm.Cond)  (h0 : Heap) (n0 : Nat) (Z0 : n0 ≤ h0.size)  :
    MetFree l mn13 (head1 (Jvm.Cond.code mn13 jdk_65_method_131_code 2 none :: ws) ({ frames := 0, cells := 0, slots := 0, locals := 0 } : Room)) (fun a U => a = #[(.int 0), (.int 0)] ∧ Z.Warmed39 U.vm ∧ U.heap = h0) (fun _ _ _ _ _ => True) (fun _ U o U' => ∃ v L, o = .returned v ∧ Q_chk0 Z h0 n0 v U'.heap L ∧ FrameEnd U o U' L ({ frames := 0, cells := 0, slots := 0, locals := 0 } : Room).cells ({ frames := 0, cells := 0, slots := 0, locals := 0 } : Room).slots) := by
  refine MetFree.of_bodySF (plainFor_of_name pn_java_util_Arrays) hisR ?_
  intro p e s m args below meth c s₁ Bd hml0 hP hK
  obtain ⟨rfl, hZ, hh⟩ := hP
  have hx := Bd.exec
  have hby := Bd.bytes
  have hml : c.maxLocals = 2 := hml0
  have hown : s.vm.findClass "java/util/Arrays" = some m.cls := findClass_of_methodNamed Bd.named
  have hnm := (name_of_methodNamed Bd.named Bd.method).1
  have X0 : Stand p l e ({ frames := 0, cells := 0, slots := 0, locals := 0 } : Room) s m #[(.int 0), (.int 0)] below meth c s₁ [] 0 0 := Stand.of_body Bd
  have e0 : s₁.heap = h0 := by rw [← hh, Bd.state]; rfl
  have N0 := Fr.nil n0
  refine go_st (fun t k => castTop (ef_chk0 m (0 : Int32) (0 : Int32)) k) ?_
  show Go _ _ _ _ (s₁.setTop (mkF m 0 #[iv 0, iv 0] []))
  refine go_st (fun t k => XS.iloadN X0.here hx rfl (hb hby d13_0) rfl k) ?_
  refine go_st (fun t k => XS.iloadN X0.here hx rfl (hb hby d13_1) rfl k) ?_
  show Go _ _ _ _ (s₁.setTop (mkF m 2 #[iv 0, iv 0] [(.int 0), (.int 0)]))
  refine go_st (fun t k => XS.icmpYes X0.here hx rfl (pc0 := 2) (pc' := 37) rfl (hb hby d13_2) rfl (flt ((by decide) : ¬ ((0 : Int32) < (0 : Int32)))).2.1 (by decide) (by decide) k) ?_
  show Go _ _ _ _ (s₁.setTop (mkF m 37 #[iv 0, iv 0] []))
  obtain ⟨fs, hr, hrun, hended, hW, hsame⟩ := X0.leave (v := none) (fun _ => rfl)
  refine ⟨_, _, ?_, hrun, hended, _, _, rfl, ?_, ⟨_, rfl⟩, hW, hsame.mono (by decide) (by decide)⟩
  · exact X0.returnOut hx Bd.returns (hb hby d13_37) hr
  · show Q_chk0 _ _ _ _ s₁.heap _
    rw [e0]
    exact ⟨rfl, N0, rfl⟩
def Q_min_16_0 (Z : State)  (h0 : Heap) (n0 : Nat) (vR : Option Value) (h : Heap) (L : List Loc) : Prop := vR = some (.int 0) ∧ Fr n0 L ∧ h = h0
theorem ef_min_16_0 (m : MethodId) (x0 : Int32) (x1 : Int32) : entryFrame m #[(.int x0), (.int x1)] 2 = mkF m 0 #[.val (.int x0), .val (.int x1)] [] := by first | (simp [entryFrame, mkF, argsToLocals, Value.category]; done) | rfl
set_option maxRecDepth 65536 in
set_option maxHeartbeats 40000000 in
theorem rm_min_16_0 (l : Launch) (Z : State) (a0 : Array Value) (hw : ∀ d ∈ tables_1, d.before a0 Z = true) (ws : List Jvm.Cond)  (h0 : Heap) (n0 : Nat) (Z0 : n0 ≤ h0.size)  :
    MetFree l mn14 (head1 (Jvm.Cond.code mn14 jdk_29_method_69_code 2 (some .int) :: ws) ({ frames := 0, cells := 0, slots := 0, locals := 0 } : Room)) (fun a U => a = #[(.int 16), (.int 0)] ∧ Z.Warmed39 U.vm ∧ U.heap = h0) (fun _ _ _ _ _ => True) (fun _ U o U' => ∃ v L, o = .returned v ∧ Q_min_16_0 Z h0 n0 v U'.heap L ∧ FrameEnd U o U' L ({ frames := 0, cells := 0, slots := 0, locals := 0 } : Room).cells ({ frames := 0, cells := 0, slots := 0, locals := 0 } : Room).slots) := by
  refine MetFree.of_bodySF (by decide +kernel) hisR ?_
  intro p e s m args below meth c s₁ Bd hml0 hP hK
  obtain ⟨rfl, hZ, hh⟩ := hP
  have hx := Bd.exec
  have hby := Bd.bytes
  have hml : c.maxLocals = 2 := hml0
  have hown : s.vm.findClass "java/lang/Math" = some m.cls := findClass_of_methodNamed Bd.named
  have hnm := (name_of_methodNamed Bd.named Bd.method).1
  have X0 : Stand p l e ({ frames := 0, cells := 0, slots := 0, locals := 0 } : Room) s m #[(.int 16), (.int 0)] below meth c s₁ [] 0 0 := Stand.of_body Bd
  have e0 : s₁.heap = h0 := by rw [← hh, Bd.state]; rfl
  have N0 := Fr.nil n0
  refine go_st (fun t k => castTop (ef_min_16_0 m (16 : Int32) (0 : Int32)) k) ?_
  show Go _ _ _ _ (s₁.setTop (mkF m 0 #[iv 16, iv 0] []))
  refine go_st (fun t k => XS.iloadN X0.here hx rfl (hb hby d14_0) rfl k) ?_
  refine go_st (fun t k => XS.iloadN X0.here hx rfl (hb hby d14_1) rfl k) ?_
  show Go _ _ _ _ (s₁.setTop (mkF m 2 #[iv 16, iv 0] [(.int 0), (.int 16)]))
  refine go_st (fun t k => XS.icmpYes X0.here hx rfl (pc0 := 2) (pc' := 9) rfl (hb hby d14_2) rfl (tlt ((by decide) : (0 : Int32) < (16 : Int32))).2.2.1 (by decide) (by decide) k) ?_
  show Go _ _ _ _ (s₁.setTop (mkF m 9 #[iv 16, iv 0] []))
  refine go_st (fun t k => XS.iloadN X0.here hx rfl (hb hby d14_9) rfl k) ?_
  show Go _ _ _ _ (s₁.setTop (mkF m 10 #[iv 16, iv 0] [(.int 0)]))
  obtain ⟨fs, hr, hrun, hended, hW, hsame⟩ := X0.leave (v := some (.int 0)) (fun h => by rw [Bd.returns] at h; cases h)
  refine ⟨_, _, ?_, hrun, hended, _, _, rfl, ?_, ⟨_, rfl⟩, hW, hsame.mono (by decide) (by decide)⟩
  · exact retI X0 hx Bd.returns (hb hby d14_10) hr
  · show Q_min_16_0 _ _ _ _ s₁.heap _
    rw [e0]
    exact ⟨rfl, N0, rfl⟩
def Q_crb0 (Z : State) (va : Addr) (kv : ClassId) (u0 : Int32) (u1 : Int32) (h0 : Heap) (n0 : Nat) (vR : Option Value) (h : Heap) (L : List Loc) : Prop := ∃ (ta : Addr) (kt : ClassId), vR = some (.ref ta) ∧ Fr n0 L ∧ Keep h0 h [] ∧ n0 ≤ ta ∧ h0.size ≤ ta ∧ (Arv Z h ta kt .byte (0 : Int32) [] (.int (0 : Int32)))
theorem ef_crb0 (m : MethodId) (x0 : Addr) (x1 : Int32) (x2 : Int32) : entryFrame m #[(.ref x0), (.int x1), (.int x2)] 5 = mkF m 0 #[.val (.ref x0), .val (.int x1), .val (.int x2), .unset, .unset] [] := by first | (simp [entryFrame, mkF, argsToLocals, Value.category]; done) | rfl
set_option maxRecDepth 65536 in
set_option maxHeartbeats 40000000 in
theorem rm_crb0 (l : Launch) (Z : State) (a0 : Array Value) (hw : ∀ d ∈ tables_1, d.before a0 Z = true) (ws : List Jvm.Cond) (va : Addr) (kv : ClassId) (u0 : Int32) (u1 : Int32) (h0 : Heap) (n0 : Nat) (Z0 : n0 ≤ h0.size) (H0 : Arv Z h0 va kv .byte (16 : Int32) [(.int u0), (.int u1)] (.int (0 : Int32))) :
    MetFree l mn12 (head1 (Jvm.Cond.code mn12 jdk_65_method_133_code 5 (some (.array .byte)) :: ws) ({ frames := 1, cells := 1, slots := 0, locals := 18 } : Room)) (fun a U => a = #[(.ref va), (.int 0), (.int 0)] ∧ Z.Warmed39 U.vm ∧ U.heap = h0) (fun _ _ _ _ _ => True) (fun _ U o U' => ∃ v L, o = .returned v ∧ Q_crb0 Z va kv u0 u1 h0 n0 v U'.heap L ∧ FrameEnd U o U' L ({ frames := 1, cells := 1, slots := 0, locals := 18 } : Room).cells ({ frames := 1, cells := 1, slots := 0, locals := 18 } : Room).slots) := by
  refine MetFree.of_bodySF (plainFor_of_name pn_java_util_Arrays) hisR ?_
  intro p e s m args below meth c s₁ Bd hml0 hP hK
  obtain ⟨rfl, hZ, hh⟩ := hP
  have hx := Bd.exec
  have hby := Bd.bytes
  have hml : c.maxLocals = 5 := hml0
  have hown : s.vm.findClass "java/util/Arrays" = some m.cls := findClass_of_methodNamed Bd.named
  have hnm := (name_of_methodNamed Bd.named Bd.method).1
  have X0 : Stand p l e ({ frames := 1, cells := 1, slots := 0, locals := 18 } : Room) s m #[(.ref va), (.int 0), (.int 0)] below meth c s₁ [] 0 0 := Stand.of_body Bd
  have e0 : s₁.heap = h0 := by rw [← hh, Bd.state]; rfl
  have N0 := Fr.nil n0
  refine go_st (fun t k => castTop (ef_crb0 m va (0 : Int32) (0 : Int32)) k) ?_
  show Go _ _ _ _ (s₁.setTop (mkF m 0 #[rv va, iv 0, iv 0, .unset, .unset] []))
  refine go_st (fun t k => XS.iloadN X0.here hx rfl (hb hby d12_0) rfl k) ?_
  refine go_st (fun t k => XS.iloadN X0.here hx rfl (hb hby d12_1) rfl k) ?_
  show Go _ _ _ _ (s₁.setTop (mkF m 2 #[rv va, iv 0, iv 0, .unset, .unset] [(.int 0), (.int 0)]))
  obtain ⟨_, _, ⟨T1, L1, kk1, nn1⟩, -, X1, ⟨Lc1, hQ1, lq1, yq1, zq1⟩, st1⟩ := Jvm.LawKit.callS X0 hx (y := mn13) hown (mvT hZ (w82 hw)) (mvT hZ (w83 hw)) (mvT hZ (w77 hw)) (mvT hZ (w84 hw)) (by decide) (backOf (W := 0) (rm_chk0 l Z a0 hw []  h0 n0 (Nat.le_trans Z0 (Nat.le_refl _)) ) hZ (w84 hw) (w77 hw) (by decide) (by decide)) (g := (mkF m 2 #[rv va, iv 0, iv 0, .unset, .unset] [(.int 0), (.int 0)])) rfl (by rw [hml]; rfl) (argsL := [(.int 0), (.int 0)]) (rest := []) (lenOf pd_5 rfl) rfl (by show 2 * 0 + _ ≤ _; exact Nat.le_of_eq rfl) (hb hby d12_2) (fun _ _ => ⟨rfl, e0, (by decide : 0 + 0 ≤ _), (by decide : 0 + 0 ≤ _)⟩)
  dsimp only [Pt.U, Pt.locs, Pt.cells, Pt.slots] at X1 lq1 yq1 zq1 st1 hQ1
  subst lq1 yq1 zq1
  obtain ⟨h1, e1⟩ : ∃ z, T1.heap = z := ⟨_, rfl⟩
  rw [e1] at hQ1
  obtain ⟨rfl, N1q, he1⟩ := hQ1
  have N1 := Fr.app N0 N1q
  rw [he1] at e1
  refine go_st st1 ?_
  refine go_st (fun t k => XS.iloadN X1.here hx rfl (hb hby d12_5) rfl k) ?_
  refine go_st (fun t k => XS.iloadN X1.here hx rfl (hb hby d12_6) rfl k) ?_
  show Go _ _ _ _ (T1.setTop (mkF m 7 #[rv va, iv 0, iv 0, .unset, .unset] [(.int 0), (.int 0)]))
  refine go_st (fun t k => XS.isub X1.here hx rfl (hb hby d12_7) rfl k) ?_
  rw [show ((0 : Int32) - (0 : Int32)) = (0 : Int32) from by decide]
  show Go _ _ _ _ (T1.setTop (mkF m 8 #[rv va, iv 0, iv 0, .unset, .unset] [(.int 0)]))
  refine go_st (fun t k => XS.istoreN X1.here hx rfl (hb hby d12_8) rfl (l' := #[rv va, iv 0, iv 0, iv 0, .unset]) rfl k) ?_
  refine go_st (fun t k => XS.iloadN X1.here hx rfl (hb hby d12_9) rfl k) ?_
  show Go _ _ _ _ (T1.setTop (mkF m 10 #[rv va, iv 0, iv 0, iv 0, .unset] [(.int 0)]))
  obtain ⟨T2, h2, kc2, X2, e2, E2, A2, st2⟩ := newP X1 hx hZ (aty := .byte) (w25 hw) e1 (g := (mkF m 10 #[rv va, iv 0, iv 0, iv 0, .unset] [(.int 0)])) rfl (hb hby d12_10) rfl (by decide) (cap := 0) (by decide) (by decide) (by decide) (by decide)
  obtain ⟨b2, gq2⟩ : ∃ z, z = h0.size := ⟨_, rfl⟩
  rw [← gq2] at A2 st2
  have f3 : Arv Z h2 b2 kc2 .byte (0 : Int32) [] (.int 0) := (Arv.new A2 (by decide)).pad (pad_rep [] (.int 0) 0)
  refine go_st (fun t k => st2 t k) ?_
  refine go_st (fun t k => XS.astore X2.here hx rfl (hb hby d12_12) rfl rfl (l' := #[rv va, iv 0, iv 0, iv 0, rv b2]) rfl k) ?_
  refine go_st (fun t k => XS.aloadN X2.here hx rfl (hb hby d12_14) rfl rfl k) ?_
  refine go_st (fun t k => XS.iloadN X2.here hx rfl (hb hby d12_15) rfl k) ?_
  refine go_st (fun t k => XS.aload X2.here hx rfl (hb hby d12_16) rfl rfl k) ?_
  refine go_st (fun t k => XS.iconst X2.here hx rfl (hb hby d12_18) k) ?_
  refine go_st (fun t k => XS.aloadN X2.here hx rfl (hb hby d12_19) rfl rfl k) ?_
  show Go _ _ _ _ (T2.setTop (mkF m 20 #[rv va, iv 0, iv 0, iv 0, rv b2] [(.ref va), (.int 0), (.ref b2), (.int 0), (.ref va)]))
  have f4 : Arv Z h2 va kv .byte (16 : Int32) [(.int u0), (.int u1)] (.int (0 : Int32)) := (H0.ext E2)
  obtain ⟨zc5, zA5, zq5, zS5, zN5, zH5, zG5⟩ := id f4
  refine go_st (fun t k => X2.arraylength hx (by rw [e2]; exact zA5.1) (State.isArrayOf_alike hZ.alike zA5.2.1) (g := (mkF m 20 #[rv va, iv 0, iv 0, iv 0, rv b2] [(.ref va), (.int 0), (.ref b2), (.int 0), (.ref va)])) rfl rfl (hb hby d12_20) t k) ?_
  rw [len_of zS5 zN5]
  refine go_st (fun t k => XS.iloadN X2.here hx rfl (hb hby d12_21) rfl k) ?_
  show Go _ _ _ _ (T2.setTop (mkF m 22 #[rv va, iv 0, iv 0, iv 0, rv b2] [(.int 0), (.int 16), (.int 0), (.ref b2), (.int 0), (.ref va)]))
  refine go_st (fun t k => XS.isub X2.here hx rfl (hb hby d12_22) rfl k) ?_
  rw [show ((16 : Int32) - (0 : Int32)) = (16 : Int32) from by decide]
  show Go _ _ _ _ (T2.setTop (mkF m 23 #[rv va, iv 0, iv 0, iv 0, rv b2] [(.int 16), (.int 0), (.ref b2), (.int 0), (.ref va)]))
  refine go_st (fun t k => XS.iloadN X2.here hx rfl (hb hby d12_23) rfl k) ?_
  show Go _ _ _ _ (T2.setTop (mkF m 24 #[rv va, iv 0, iv 0, iv 0, rv b2] [(.int 0), (.int 16), (.int 0), (.ref b2), (.int 0), (.ref va)]))
  obtain ⟨_, _, ⟨T6, L6, kk6, nn6⟩, -, X6, ⟨Lc6, hQ6, lq6, yq6, zq6⟩, st6⟩ := Jvm.LawKit.callS X2 hx (y := mn14) hown (mvT hZ (w85 hw)) (mvT hZ (w86 hw)) (mvT hZ (w87 hw)) (mvT hZ (w88 hw)) (by decide) (backOf (W := 4) (rm_min_16_0 l Z a0 hw []  h2 n0 (Nat.le_trans Z0 E2.1) ) hZ (w88 hw) (w87 hw) (by decide) (by decide)) (g := (mkF m 24 #[rv va, iv 0, iv 0, iv 0, rv b2] [(.int 0), (.int 16), (.int 0), (.ref b2), (.int 0), (.ref va)])) rfl (by rw [hml]; rfl) (argsL := [(.int 16), (.int 0)]) (rest := [(.int 0), (.ref b2), (.int 0), (.ref va)]) (lenOf pd_6 rfl) rfl (by show 2 * 0 + _ ≤ _; exact Nat.le_of_eq rfl) (hb hby d12_24) (fun _ _ => ⟨rfl, e2, (by decide : 1 + 0 ≤ _), (by decide : 0 + 0 ≤ _)⟩)
  dsimp only [Pt.U, Pt.locs, Pt.cells, Pt.slots] at X6 lq6 yq6 zq6 st6 hQ6
  subst lq6 yq6 zq6
  obtain ⟨h6, e6⟩ : ∃ z, T6.heap = z := ⟨_, rfl⟩
  rw [e6] at hQ6
  obtain ⟨rfl, N6q, he6⟩ := hQ6
  have N6 := Fr.app N1 N6q
  rw [he6] at e6
  refine go_st st6 ?_
  show Go _ _ _ _ (T6.setTop (mkF m 27 #[rv va, iv 0, iv 0, iv 0, rv b2] [(.int 0), (.int 0), (.ref b2), (.int 0), (.ref va)]))
  have g_b2 : n0 ≤ b2 := Nat.le_trans (Nat.le_trans Z0 (Nat.le_refl _)) (Nat.le_of_eq gq2.symm)
  obtain ⟨T7, h7, L7, X7, e7, N7, K7, A7, st7⟩ := cpA X6 hx hZ hown (w89 hw) (w92 hw) (w90 hw) (w91 hw) e6 f4 f3 (Or.inl ⟨rfl, rfl⟩) (sp := (0 : Int32)) (dp := (0 : Int32)) (nn := (0 : Int32)) (us := []) (by decide) (by decide) (by decide) (by decide) (by decide) rfl (Nat.le_of_ble_eq_true rfl) N6 g_b2 (g := (mkF m 27 #[rv va, iv 0, iv 0, iv 0, rv b2] [(.int 0), (.int 0), (.ref b2), (.int 0), (.ref va)])) rfl (by rw [hml]; rfl) rfl (hb hby d12_27) (by decide) (W := 0) (by show 2 * 0 + _ ≤ _; exact Nat.le_of_eq rfl) (by decide)
  have f8 : Arv Z h7 b2 kc2 .byte (0 : Int32) [] (.int 0) := A7
  refine go_st (fun t k => st7 t k) ?_
  refine go_st (fun t k => XS.aload X7.here hx rfl (hb hby d12_30) rfl rfl k) ?_
  show Go _ _ _ _ (T7.setTop (mkF m 32 #[rv va, iv 0, iv 0, iv 0, rv b2] [(.ref b2)]))
  have ke9 : Keep h0 h2 [] := (Keep.ext (Keep.refl h0 []) E2)
  have ke10 : Keep h0 h7 [] := (Keep.trans ke9 K7 (allS (Or.inr (Nat.le_of_eq gq2.symm)) all0))
  obtain ⟨fs, hr, hrun, hended, hW, hsame⟩ := X7.leave (v := some (.ref b2)) (fun h => by rw [Bd.returns] at h; cases h)
  refine ⟨_, _, ?_, hrun, hended, _, _, rfl, ?_, ⟨_, rfl⟩, hW, hsame.mono (by decide) (by decide)⟩
  · exact retOut X7 hx Bd.returns rfl (Or.inr (Or.inr (Or.inr (Or.inr ⟨rfl, rfl, rfl⟩)))) (hb hby d12_32) hr
  · show Q_crb0 _ _ _ _ _ _ _ _ T7.heap _
    rw [e7]
    exact ⟨b2, kc2, rfl, N7, ke10, g_b2, (Nat.le_of_eq gq2.symm), f8⟩
def Q_cr0 (Z : State) (va : Addr) (kv : ClassId) (u0 : Int32) (u1 : Int32) (h0 : Heap) (n0 : Nat) (vR : Option Value) (h : Heap) (L : List Loc) : Prop := ∃ (ta : Addr) (kt : ClassId), vR = some (.ref ta) ∧ Fr n0 L ∧ Keep h0 h [] ∧ n0 ≤ ta ∧ h0.size ≤ ta ∧ (Arv Z h ta kt .byte (0 : Int32) [] (.int (0 : Int32)))
theorem ef_cr0 (m : MethodId) (x0 : Addr) (x1 : Int32) (x2 : Int32) : entryFrame m #[(.ref x0), (.int x1), (.int x2)] 3 = mkF m 0 #[.val (.ref x0), .val (.int x1), .val (.int x2)] [] := by first | (simp [entryFrame, mkF, argsToLocals, Value.category]; done) | rfl
set_option maxRecDepth 65536 in
set_option maxHeartbeats 40000000 in
theorem rm_cr0 (l : Launch) (Z : State) (a0 : Array Value) (hw : ∀ d ∈ tables_1, d.before a0 Z = true) (ws : List Jvm.Cond) (va : Addr) (kv : ClassId) (u0 : Int32) (u1 : Int32) (h0 : Heap) (n0 : Nat) (Z0 : n0 ≤ h0.size) (H0 : Arv Z h0 va kv .byte (16 : Int32) [(.int u0), (.int u1)] (.int (0 : Int32))) :
    MetFree l mn11 (head1 (Jvm.Cond.code mn11 jdk_65_method_132_code 3 (some (.array .byte)) :: ws) ({ frames := 2, cells := 1, slots := 0, locals := 34 } : Room)) (fun a U => a = #[(.ref va), (.int 0), (.int 0)] ∧ Z.Warmed39 U.vm ∧ U.heap = h0) (fun _ _ _ _ _ => True) (fun _ U o U' => ∃ v L, o = .returned v ∧ Q_cr0 Z va kv u0 u1 h0 n0 v U'.heap L ∧ FrameEnd U o U' L ({ frames := 2, cells := 1, slots := 0, locals := 34 } : Room).cells ({ frames := 2, cells := 1, slots := 0, locals := 34 } : Room).slots) := by
  refine MetFree.of_bodySF (plainFor_of_name pn_java_util_Arrays) hisR ?_
  intro p e s m args below meth c s₁ Bd hml0 hP hK
  obtain ⟨rfl, hZ, hh⟩ := hP
  have hx := Bd.exec
  have hby := Bd.bytes
  have hml : c.maxLocals = 3 := hml0
  have hown : s.vm.findClass "java/util/Arrays" = some m.cls := findClass_of_methodNamed Bd.named
  have hnm := (name_of_methodNamed Bd.named Bd.method).1
  have X0 : Stand p l e ({ frames := 2, cells := 1, slots := 0, locals := 34 } : Room) s m #[(.ref va), (.int 0), (.int 0)] below meth c s₁ [] 0 0 := Stand.of_body Bd
  have e0 : s₁.heap = h0 := by rw [← hh, Bd.state]; rfl
  have N0 := Fr.nil n0
  refine go_st (fun t k => castTop (ef_cr0 m va (0 : Int32) (0 : Int32)) k) ?_
  show Go _ _ _ _ (s₁.setTop (mkF m 0 #[rv va, iv 0, iv 0] []))
  refine go_st (fun t k => XS.iloadN X0.here hx rfl (hb hby d11_0) rfl k) ?_
  show Go _ _ _ _ (s₁.setTop (mkF m 1 #[rv va, iv 0, iv 0] [(.int 0)]))
  refine go_st (fun t k => XS.ifNo X0.here hx rfl (hb hby d11_1) rfl ((if0 _ _).trans (teq ((by decide) : (0 : Int32) = (0 : Int32))).2) k) ?_
  show Go _ _ _ _ (s₁.setTop (mkF m 4 #[rv va, iv 0, iv 0] []))
  refine go_st (fun t k => XS.iloadN X0.here hx rfl (hb hby d11_4) rfl k) ?_
  refine go_st (fun t k => XS.aloadN X0.here hx rfl (hb hby d11_5) rfl rfl k) ?_
  show Go _ _ _ _ (s₁.setTop (mkF m 6 #[rv va, iv 0, iv 0] [(.ref va), (.int 0)]))
  obtain ⟨zc1, zA1, zq1, zS1, zN1, zH1, zG1⟩ := id H0
  refine go_st (fun t k => X0.arraylength hx (by rw [e0]; exact zA1.1) (State.isArrayOf_alike hZ.alike zA1.2.1) (g := (mkF m 6 #[rv va, iv 0, iv 0] [(.ref va), (.int 0)])) rfl rfl (hb hby d11_6) t k) ?_
  rw [len_of zS1 zN1]
  show Go _ _ _ _ (s₁.setTop (mkF m 7 #[rv va, iv 0, iv 0] [(.int 16), (.int 0)]))
  refine go_st (fun t k => XS.icmpNo X0.here hx rfl (hb hby d11_7) rfl (feq ((by decide) : ¬ ((0 : Int32) = (16 : Int32)))).1 k) ?_
  show Go _ _ _ _ (s₁.setTop (mkF m 10 #[rv va, iv 0, iv 0] []))
  refine go_st (fun t k => XS.aloadN X0.here hx rfl (hb hby d11_10) rfl rfl k) ?_
  refine go_st (fun t k => XS.iloadN X0.here hx rfl (hb hby d11_11) rfl k) ?_
  refine go_st (fun t k => XS.iloadN X0.here hx rfl (hb hby d11_12) rfl k) ?_
  show Go _ _ _ _ (s₁.setTop (mkF m 13 #[rv va, iv 0, iv 0] [(.int 0), (.int 0), (.ref va)]))
  obtain ⟨_, _, ⟨T2, L2, kk2, nn2⟩, -, X2, ⟨Lc2, hQ2, lq2, yq2, zq2⟩, st2⟩ := Jvm.LawKit.callS X0 hx (y := mn12) hown (mvT hZ (w79 hw)) (mvT hZ (w80 hw)) (mvT hZ (w77 hw)) (mvT hZ (w81 hw)) (by decide) (backOf (W := 0) (rm_crb0 l Z a0 hw [] va kv u0 u1 h0 n0 (Nat.le_trans Z0 (Nat.le_refl _)) H0) hZ (w81 hw) (w77 hw) (by decide) (by decide)) (g := (mkF m 13 #[rv va, iv 0, iv 0] [(.int 0), (.int 0), (.ref va)])) rfl (by rw [hml]; rfl) (argsL := [(.ref va), (.int 0), (.int 0)]) (rest := []) (lenOf pd_7 rfl) rfl (by show 2 * 0 + _ ≤ _; exact Nat.le_of_eq rfl) (hb hby d11_13) (fun _ _ => ⟨rfl, e0, (by decide : 0 + 1 ≤ _), (by decide : 0 + 0 ≤ _)⟩)
  dsimp only [Pt.U, Pt.locs, Pt.cells, Pt.slots] at X2 lq2 yq2 zq2 st2 hQ2
  subst lq2 yq2 zq2
  obtain ⟨h2, e2⟩ : ∃ z, T2.heap = z := ⟨_, rfl⟩
  rw [e2] at hQ2
  obtain ⟨ta_2, kt_2, rfl, N2q, K2, gf2_0, lf2_0, p2_1⟩ := hQ2
  have N2 := Fr.app N0 N2q
  refine go_st st2 ?_
  show Go _ _ _ _ (T2.setTop (mkF m 16 #[rv va, iv 0, iv 0] [(.ref ta_2)]))
  have ke3 : Keep h0 h2 [] := (Keep.trans (Keep.refl h0 []) K2 all0)
  obtain ⟨fs, hr, hrun, hended, hW, hsame⟩ := X2.leave (v := some (.ref ta_2)) (fun h => by rw [Bd.returns] at h; cases h)
  refine ⟨_, _, ?_, hrun, hended, _, _, rfl, ?_, ⟨_, rfl⟩, hW, hsame.mono (by decide) (by decide)⟩
  · exact retOut X2 hx Bd.returns rfl (Or.inr (Or.inr (Or.inr (Or.inr ⟨rfl, rfl, rfl⟩)))) (hb hby d11_16) hr
  · show Q_cr0 _ _ _ _ _ _ _ _ T2.heap _
    rw [e2]
    exact ⟨ta_2, kt_2, rfl, N2, ke3, gf2_0, lf2_0, p2_1⟩
def Q_strasb0 (Z : State) (sa : Addr) (sb : Addr) (va : Addr) (kv : ClassId) (u0 : Int32) (u1 : Int32) (ml : Int32) (G1 : Int32) (h0 : Heap) (n0 : Nat) (vR : Option Value) (h : Heap) (L : List Loc) : Prop := ∃ (ta : Addr) (kt : ClassId), vR = none ∧ Fr n0 L ∧ Keep h0 h [sa] ∧ n0 ≤ ta ∧ h0.size ≤ ta ∧ (Exa Z h sa cST) ∧ (Fld Z h sa cST "value" "[B" (.ref ta)) ∧ (Fld Z h sa cST "coder" "B" (.int 0)) ∧ (Arv Z h ta kt .byte (0 : Int32) [] (.int (0 : Int32)))
theorem ef_strasb0 (m : MethodId) (x0 : Addr) (x1 : Addr) : entryFrame m #[(.ref x0), (.ref x1), .null] 5 = mkF m 0 #[.val (.ref x0), .val (.ref x1), .val .null, .unset, .unset] [] := by first | (simp [entryFrame, mkF, argsToLocals, Value.category]; done) | rfl
set_option maxRecDepth 65536 in
set_option maxHeartbeats 40000000 in
theorem rm_strasb0 (l : Launch) (Z : State) (a0 : Array Value) (hw : ∀ d ∈ tables_1, d.before a0 Z = true) (ws : List Jvm.Cond) (sa : Addr) (sb : Addr) (va : Addr) (kv : ClassId) (u0 : Int32) (u1 : Int32) (ml : Int32) (G1 : Int32) (h0 : Heap) (n0 : Nat) (Z0 : n0 ≤ h0.size) (H0 : Exa Z h0 sa cST) (H1 : Fld Z h0 sa cST "value" "[B" .null) (H2 : Fld Z h0 sa cST "coder" "B" (.int 0)) (g_sa : n0 ≤ sa) (H4 : Exa Z h0 sb cSB) (H5 : Fld Z h0 sb cAS "value" "[B" (.ref va)) (H6 : Fld Z h0 sb cAS "coder" "B" (.int 0)) (H7 : Fld Z h0 sb cAS "count" "I" (.int 0)) (H8 : Fld Z h0 sb cAS "maybeLatin1" "Z" (.int ml)) (H9 : Arv Z h0 va kv .byte (16 : Int32) [(.int u0), (.int u1)] (.int (0 : Int32))) (CS : Sta Z Z.heap "java/lang/String" "COMPACT_STRINGS" "Z" (.int G1)) (CSn : ¬ (G1 = (0 : Int32))) (O0 : Old Z n0 h0) :
    MetFree l mn6 (head1 (Jvm.Cond.code mn6 jdk_42_method_150_code 5 none :: ws) ({ frames := 3, cells := 1, slots := 0, locals := 49 } : Room)) (fun a U => a = #[(.ref sa), (.ref sb), .null] ∧ Z.Warmed39 U.vm ∧ U.heap = h0) (fun _ _ _ _ _ => True) (fun _ U o U' => ∃ v L, o = .returned v ∧ Q_strasb0 Z sa sb va kv u0 u1 ml G1 h0 n0 v U'.heap L ∧ FrameEnd U o U' L ({ frames := 3, cells := 1, slots := 0, locals := 49 } : Room).cells ({ frames := 3, cells := 1, slots := 0, locals := 49 } : Room).slots) := by
  refine MetFree.of_bodySF (plainFor_of_name pn_java_lang_String) hisR ?_
  intro p e s m args below meth c s₁ Bd hml0 hP hK
  obtain ⟨rfl, hZ, hh⟩ := hP
  have hx := Bd.exec
  have hby := Bd.bytes
  have hml : c.maxLocals = 5 := hml0
  have hown : s.vm.findClass "java/lang/String" = some m.cls := findClass_of_methodNamed Bd.named
  have hnm := (name_of_methodNamed Bd.named Bd.method).1
  have X0 : Stand p l e ({ frames := 3, cells := 1, slots := 0, locals := 49 } : Room) s m #[(.ref sa), (.ref sb), .null] below meth c s₁ [] 0 0 := Stand.of_body Bd
  have e0 : s₁.heap = h0 := by rw [← hh, Bd.state]; rfl
  have N0 := Fr.nil n0
  refine go_st (fun t k => castTop (ef_strasb0 m sa sb) k) ?_
  show Go _ _ _ _ (s₁.setTop (mkF m 0 #[rv sa, rv sb, .val .null, .unset, .unset] []))
  refine go_st (fun t k => XS.aloadN X0.here hx rfl (hb hby d6_0) rfl rfl k) ?_
  show Go _ _ _ _ (s₁.setTop (mkF m 1 #[rv sa, rv sb, .val .null, .unset, .unset] [(.ref sa)]))
  obtain ⟨T1, X1, e1, st1⟩ := initO X0 hx hZ hown (w51 hw) (w8 hw) (w9 hw) e0 (g := (mkF m 1 #[rv sa, rv sb, .val .null, .unset, .unset] [(.ref sa)])) rfl (by rw [hml]; rfl) rfl (hb hby d6_1) (by decide) (W := 0) (by show 2 * 0 + _ ≤ _; exact Nat.le_of_eq rfl) (by decide)
  refine go_st (fun t k => st1 t k) ?_
  refine go_st (fun t k => XS.aloadN X1.here hx rfl (hb hby d6_4) rfl rfl k) ?_
  show Go _ _ _ _ (T1.setTop (mkF m 5 #[rv sa, rv sb, .val .null, .unset, .unset] [(.ref sb)]))
  obtain ⟨cq2, kq2, q2a, q2b, q2c⟩ := isOf hZ e1 H4
  obtain ⟨_, _, ⟨T2, L2, kk2, nn2⟩, -, X2, ⟨Lc2, hQ2, lq2, yq2, zq2⟩, st2⟩ := X1.virtualBack hx (y := mn7) (z := mn7) hown (mvT hZ (w52 hw)) (mvT hZ (w53 hw)) (notFace_of_selects (args := #[]) (mvT hZ (w55 hw))) (mvT hZ (w55 hw)) (mvT hZ (w54 hw)) (by decide) (backOf (W := 0) (rm_getv l Z a0 hw [] sb va h0 n0 (Nat.le_trans Z0 (Nat.le_refl _)) H5) hZ (w56 hw) (w20 hw) (by decide) (by decide)) q2a q2c (g := (mkF m 5 #[rv sa, rv sb, .val .null, .unset, .unset] [(.ref sb)])) rfl (by rw [hml]; rfl) (Steps.refl _) (argsL := []) (rest := []) (lenOf pd_2 rfl) rfl (by show 2 * 0 + _ ≤ _; exact Nat.le_of_eq rfl) (hb hby d6_5) (fun _ _ => ⟨rfl, e1, (by decide : 0 + 0 ≤ _), (by decide : 0 + 0 ≤ _)⟩)
  dsimp only [Pt.U, Pt.locs, Pt.cells, Pt.slots] at X2 lq2 yq2 zq2 st2 hQ2
  subst lq2 yq2 zq2
  obtain ⟨h2, e2⟩ : ∃ z, T2.heap = z := ⟨_, rfl⟩
  rw [e2] at hQ2
  obtain ⟨rfl, N2q, he2⟩ := hQ2
  have N2 := Fr.app N0 N2q
  rw [he2] at e2
  refine go_tr st2 ?_
  refine go_st (fun t k => XS.astoreN X2.here hx rfl (hb hby d6_8) rfl rfl (l' := #[rv sa, rv sb, .val .null, rv va, .unset]) rfl k) ?_
  refine go_st (fun t k => XS.aloadN X2.here hx rfl (hb hby d6_9) rfl rfl k) ?_
  show Go _ _ _ _ (T2.setTop (mkF m 10 #[rv sa, rv sb, .val .null, rv va, .unset] [(.ref sb)]))
  obtain ⟨cq3, kq3, q3a, q3b, q3c⟩ := isOf hZ e2 H4
  obtain ⟨_, _, ⟨T3, L3, kk3, nn3⟩, -, X3, ⟨Lc3, hQ3, lq3, yq3, zq3⟩, st3⟩ := X2.virtualBack hx (y := mn9) (z := mn8) hown (mvT hZ (w57 hw)) (mvT hZ (w58 hw)) (nf_same (y := mn9) (y' := mn7) (a0 := #[]) rfl (mvT hZ (w54 hw)) (notFace_of_selects (args := #[]) (mvT hZ (w55 hw)))) (mvT hZ (w60 hw)) (mvT hZ (w61 hw)) (by decide) (backOf (W := 0) (rm_sb_len0 l Z a0 hw [] sb h0 n0 (Nat.le_trans Z0 (Nat.le_refl _)) H4 H7) hZ (w62 hw) (w12 hw) (by decide) (by decide)) q3a q3c (g := (mkF m 10 #[rv sa, rv sb, .val .null, rv va, .unset] [(.ref sb)])) rfl (by rw [hml]; rfl) (Steps.refl _) (argsL := []) (rest := []) (lenOf pd_3 rfl) rfl (by show 2 * 0 + _ ≤ _; exact Nat.le_of_eq rfl) (hb hby d6_10) (fun _ _ => ⟨rfl, e2, (by decide : 0 + 0 ≤ _), (by decide : 0 + 0 ≤ _)⟩)
  dsimp only [Pt.U, Pt.locs, Pt.cells, Pt.slots] at X3 lq3 yq3 zq3 st3 hQ3
  subst lq3 yq3 zq3
  obtain ⟨h3, e3⟩ : ∃ z, T3.heap = z := ⟨_, rfl⟩
  rw [e3] at hQ3
  obtain ⟨rfl, N3q, he3⟩ := hQ3
  have N3 := Fr.app N2 N3q
  rw [he3] at e3
  refine go_tr st3 ?_
  refine go_st (fun t k => XS.istore X3.here hx rfl (hb hby d6_13) rfl (l' := #[rv sa, rv sb, .val .null, rv va, iv 0]) rfl k) ?_
  refine go_st (fun t k => XS.aloadN X3.here hx rfl (hb hby d6_15) rfl rfl k) ?_
  show Go _ _ _ _ (T3.setTop (mkF m 16 #[rv sa, rv sb, .val .null, rv va, iv 0] [(.ref sb)]))
  obtain ⟨cq4, kq4, q4a, q4b, q4c⟩ := isOf hZ e3 H4
  obtain ⟨_, _, ⟨T4, L4, kk4, nn4⟩, -, X4, ⟨Lc4, hQ4, lq4, yq4, zq4⟩, st4⟩ := X3.virtualBack hx (y := mn10) (z := mn10) hown (mvT hZ (w68 hw)) (mvT hZ (w69 hw)) (nf_same (y := mn10) (y' := mn7) (a0 := #[]) rfl (mvT hZ (w54 hw)) (notFace_of_selects (args := #[]) (mvT hZ (w55 hw)))) (mvT hZ (w71 hw)) (mvT hZ (w70 hw)) (by decide) (backOf (W := 0) (rm_isl l Z a0 hw [] sb G1 h0 n0 (Nat.le_trans Z0 (Nat.le_refl _)) H6 CS CSn O0) hZ (w72 hw) (w20 hw) (by decide) (by decide)) q4a q4c (g := (mkF m 16 #[rv sa, rv sb, .val .null, rv va, iv 0] [(.ref sb)])) rfl (by rw [hml]; rfl) (Steps.refl _) (argsL := []) (rest := []) (lenOf pd_4 rfl) rfl (by show 2 * 0 + _ ≤ _; exact Nat.le_of_eq rfl) (hb hby d6_16) (fun _ _ => ⟨rfl, e3, (by decide : 0 + 0 ≤ _), (by decide : 0 + 0 ≤ _)⟩)
  dsimp only [Pt.U, Pt.locs, Pt.cells, Pt.slots] at X4 lq4 yq4 zq4 st4 hQ4
  subst lq4 yq4 zq4
  obtain ⟨h4, e4⟩ : ∃ z, T4.heap = z := ⟨_, rfl⟩
  rw [e4] at hQ4
  obtain ⟨rfl, N4q, he4⟩ := hQ4
  have N4 := Fr.app N3 N4q
  rw [he4] at e4
  refine go_tr st4 ?_
  show Go _ _ _ _ (T4.setTop (mkF m 19 #[rv sa, rv sb, .val .null, rv va, iv 0] [(.int 1)]))
  refine go_st (fun t k => XS.ifNo X4.here hx rfl (hb hby d6_19) rfl ((if0 _ _).trans (feq ((by decide) : ¬ ((1 : Int32) = (0 : Int32)))).1) k) ?_
  show Go _ _ _ _ (T4.setTop (mkF m 22 #[rv sa, rv sb, .val .null, rv va, iv 0] []))
  refine go_st (fun t k => XS.aloadN X4.here hx rfl (hb hby d6_22) rfl rfl k) ?_
  refine go_st (fun t k => XS.iconst X4.here hx rfl (hb hby d6_23) k) ?_
  show Go _ _ _ _ (T4.setTop (mkF m 24 #[rv sa, rv sb, .val .null, rv va, iv 0] [(.int 0), (.ref sa)]))
  obtain ⟨T5, h5, X5, e5, W5, st5⟩ := putFN X4 hx hZ hown (w73 hw) Via.refl e4 H2 H0 (Or.inr ⟨(w74 hw), rfl, hnm⟩) (w43 hw) (ty := .byte) (v' := (.int 0)) (by decide) rfl rfl (g := (mkF m 24 #[rv sa, rv sb, .val .null, rv va, iv 0] [(.int 0), (.ref sa)])) rfl rfl (hb hby d6_24)
  have N5 := Fr.snoc X5 N4 g_sa
  have f6 : Fld Z h5 sa cST "coder" "B" (.int 0) := H2.same W5
  refine go_st (fun t k => st5 t k) ?_
  refine go_st (fun t k => XS.aloadN X5.here hx rfl (hb hby d6_27) rfl rfl k) ?_
  refine go_st (fun t k => XS.aloadN X5.here hx rfl (hb hby d6_28) rfl rfl k) ?_
  refine go_st (fun t k => XS.iconst X5.here hx rfl (hb hby d6_29) k) ?_
  refine go_st (fun t k => XS.iload X5.here hx rfl (hb hby d6_30) rfl k) ?_
  show Go _ _ _ _ (T5.setTop (mkF m 32 #[rv sa, rv sb, .val .null, rv va, iv 0] [(.int 0), (.int 0), (.ref va), (.ref sa)]))
  have nq7 : va ≠ sa := Ne.symm (Exa.neArv H0 H9 (w43 hw))
  have f8 : Arv Z h5 va kv .byte (16 : Int32) [(.int u0), (.int u1)] (.int (0 : Int32)) := (H9.other W5 nq7)
  obtain ⟨_, _, ⟨T9, L9, kk9, nn9⟩, -, X9, ⟨Lc9, hQ9, lq9, yq9, zq9⟩, st9⟩ := Jvm.LawKit.callS X5 hx (y := mn11) hown (mvT hZ (w75 hw)) (mvT hZ (w76 hw)) (mvT hZ (w77 hw)) (mvT hZ (w78 hw)) (by decide) (backOf (W := 1) (rm_cr0 l Z a0 hw [] va kv u0 u1 h5 n0 (Nat.le_trans Z0 (Nat.le_of_eq W5.size.symm)) f8) hZ (w78 hw) (w77 hw) (by decide) (by decide)) (g := (mkF m 32 #[rv sa, rv sb, .val .null, rv va, iv 0] [(.int 0), (.int 0), (.ref va), (.ref sa)])) rfl (by rw [hml]; rfl) (argsL := [(.ref va), (.int 0), (.int 0)]) (rest := [(.ref sa)]) (lenOf pd_7 rfl) rfl (by show 2 * 0 + _ ≤ _; exact Nat.le_of_eq rfl) (hb hby d6_32) (fun _ _ => ⟨rfl, e5, (by decide : 0 + 1 ≤ _), (by decide : 0 + 0 ≤ _)⟩)
  dsimp only [Pt.U, Pt.locs, Pt.cells, Pt.slots] at X9 lq9 yq9 zq9 st9 hQ9
  subst lq9 yq9 zq9
  obtain ⟨h9, e9⟩ : ∃ z, T9.heap = z := ⟨_, rfl⟩
  rw [e9] at hQ9
  obtain ⟨ta_9, kt_9, rfl, N9q, K9, gf9_0, lf9_0, p9_1⟩ := hQ9
  have N9 := Fr.app N5 N9q
  refine go_st st9 ?_
  show Go _ _ _ _ (T9.setTop (mkF m 35 #[rv sa, rv sb, .val .null, rv va, iv 0] [(.ref ta_9), (.ref sa)]))
  have f10 : Fld Z h9 sa cST "value" "[B" .null := ((H1.other W5 (Or.inr (slot_ne (Or.inr (w94 hw)) (Or.inr (w74 hw)) (by decide) (t := (.array .byte)) (t' := .byte) (by decide) (by decide)))).keep K9 nin0)
  have f11 : Exa Z h9 sa cST := ((H0.wr W5).keep K9)
  obtain ⟨T12, h12, X12, e12, W12, st12⟩ := putF X9 hx hZ hown (host := "") (Or.inl (w93 hw)) Via.refl e9 f10 f11 (Or.inr ⟨(w94 hw), rfl, hnm⟩) (w43 hw) (ty := (.array .byte)) (by decide) rfl rfl (g := (mkF m 35 #[rv sa, rv sb, .val .null, rv va, iv 0] [(.ref ta_9), (.ref sa)])) rfl rfl (hb hby d6_35)
  have N12 := Fr.snoc X12 N9 g_sa
  have f13 : Fld Z h12 sa cST "value" "[B" (.ref ta_9) := f10.same W12
  refine go_st (fun t k => st12 t k) ?_
  refine go_st (fun t k => XS.goto X12.here hx rfl (pc0 := 38) (pc' := 97) rfl (hb hby d6_38) (by decide) (by decide) k) ?_
  show Go _ _ _ _ (T12.setTop (mkF m 97 #[rv sa, rv sb, .val .null, rv va, iv 0] []))
  have f14 : Exa Z h12 sa cST := (f11.wr W12)
  have f15 : Fld Z h12 sa cST "coder" "B" (.int 0) := ((f6.keep K9 nin0).other W12 (Or.inr (slot_ne (Or.inr (w74 hw)) (Or.inr (w94 hw)) (by decide) (t := .byte) (t' := (.array .byte)) (by decide) (by decide))))
  have nq16 : sa ≠ ta_9 := Nat.ne_of_lt (Nat.lt_of_lt_of_le (Nat.lt_of_lt_of_le H0.lt (Nat.le_of_eq W5.size.symm)) lf9_0)
  have f17 : Arv Z h12 ta_9 kt_9 .byte (0 : Int32) [] (.int (0 : Int32)) := (p9_1.other W12 (Ne.symm nq16))
  have ke18 : Keep h0 h5 [sa] := (Keep.wr (Keep.refl h0 [sa]) W5 (Or.inl (List.mem_of_getElem? (i := 0) rfl)))
  have ke19 : Keep h0 h9 [sa] := (Keep.trans ke18 K9 all0)
  have ke20 : Keep h0 h12 [sa] := (Keep.wr ke19 W12 (Or.inl (List.mem_of_getElem? (i := 0) rfl)))
  obtain ⟨fs, hr, hrun, hended, hW, hsame⟩ := X12.leave (v := none) (fun _ => rfl)
  refine ⟨_, _, ?_, hrun, hended, _, _, rfl, ?_, ⟨_, rfl⟩, hW, hsame.mono (by decide) (by decide)⟩
  · exact X12.returnOut hx Bd.returns (hb hby d6_97) hr
  · show Q_strasb0 _ _ _ _ _ _ _ _ _ _ _ _ T12.heap _
    rw [e12]
    exact ⟨ta_9, kt_9, rfl, N12, ke20, gf9_0, (Nat.le_trans (Nat.le_of_eq W5.size.symm) lf9_0), f14, f13, f15, f17⟩
def Q_strsb0 (Z : State) (sa : Addr) (sb : Addr) (va : Addr) (kv : ClassId) (u0 : Int32) (u1 : Int32) (ml : Int32) (G1 : Int32) (h0 : Heap) (n0 : Nat) (vR : Option Value) (h : Heap) (L : List Loc) : Prop := ∃ (ta : Addr) (kt : ClassId), vR = none ∧ Fr n0 L ∧ Keep h0 h [sa] ∧ n0 ≤ ta ∧ h0.size ≤ ta ∧ (Exa Z h sa cST) ∧ (Fld Z h sa cST "value" "[B" (.ref ta)) ∧ (Fld Z h sa cST "coder" "B" (.int 0)) ∧ (Arv Z h ta kt .byte (0 : Int32) [] (.int (0 : Int32)))
theorem ef_strsb0 (m : MethodId) (x0 : Addr) (x1 : Addr) : entryFrame m #[(.ref x0), (.ref x1)] 2 = mkF m 0 #[.val (.ref x0), .val (.ref x1)] [] := by first | (simp [entryFrame, mkF, argsToLocals, Value.category]; done) | rfl
set_option maxRecDepth 65536 in
set_option maxHeartbeats 40000000 in
theorem rm_strsb0 (l : Launch) (Z : State) (a0 : Array Value) (hw : ∀ d ∈ tables_1, d.before a0 Z = true) (ws : List Jvm.Cond) (sa : Addr) (sb : Addr) (va : Addr) (kv : ClassId) (u0 : Int32) (u1 : Int32) (ml : Int32) (G1 : Int32) (h0 : Heap) (n0 : Nat) (Z0 : n0 ≤ h0.size) (H0 : Exa Z h0 sa cST) (H1 : Fld Z h0 sa cST "value" "[B" .null) (H2 : Fld Z h0 sa cST "coder" "B" (.int 0)) (g_sa : n0 ≤ sa) (H4 : Exa Z h0 sb cSB) (H5 : Fld Z h0 sb cAS "value" "[B" (.ref va)) (H6 : Fld Z h0 sb cAS "coder" "B" (.int 0)) (H7 : Fld Z h0 sb cAS "count" "I" (.int 0)) (H8 : Fld Z h0 sb cAS "maybeLatin1" "Z" (.int ml)) (H9 : Arv Z h0 va kv .byte (16 : Int32) [(.int u0), (.int u1)] (.int (0 : Int32))) (CS : Sta Z Z.heap "java/lang/String" "COMPACT_STRINGS" "Z" (.int G1)) (CSn : ¬ (G1 = (0 : Int32))) (O0 : Old Z n0 h0) :
    MetFree l mn5 (head1 (Jvm.Cond.code mn5 jdk_42_method_53_code 2 none :: ws) ({ frames := 4, cells := 1, slots := 0, locals := 65 } : Room)) (fun a U => a = #[(.ref sa), (.ref sb)] ∧ Z.Warmed39 U.vm ∧ U.heap = h0) (fun _ _ _ _ _ => True) (fun _ U o U' => ∃ v L, o = .returned v ∧ Q_strsb0 Z sa sb va kv u0 u1 ml G1 h0 n0 v U'.heap L ∧ FrameEnd U o U' L ({ frames := 4, cells := 1, slots := 0, locals := 65 } : Room).cells ({ frames := 4, cells := 1, slots := 0, locals := 65 } : Room).slots) := by
  refine MetFree.of_bodySF (plainFor_of_name pn_java_lang_String) hisR ?_
  intro p e s m args below meth c s₁ Bd hml0 hP hK
  obtain ⟨rfl, hZ, hh⟩ := hP
  have hx := Bd.exec
  have hby := Bd.bytes
  have hml : c.maxLocals = 2 := hml0
  have hown : s.vm.findClass "java/lang/String" = some m.cls := findClass_of_methodNamed Bd.named
  have hnm := (name_of_methodNamed Bd.named Bd.method).1
  have X0 : Stand p l e ({ frames := 4, cells := 1, slots := 0, locals := 65 } : Room) s m #[(.ref sa), (.ref sb)] below meth c s₁ [] 0 0 := Stand.of_body Bd
  have e0 : s₁.heap = h0 := by rw [← hh, Bd.state]; rfl
  have N0 := Fr.nil n0
  refine go_st (fun t k => castTop (ef_strsb0 m sa sb) k) ?_
  show Go _ _ _ _ (s₁.setTop (mkF m 0 #[rv sa, rv sb] []))
  refine go_st (fun t k => XS.aloadN X0.here hx rfl (hb hby d5_0) rfl rfl k) ?_
  refine go_st (fun t k => XS.aloadN X0.here hx rfl (hb hby d5_1) rfl rfl k) ?_
  refine go_st (fun t k => XS.aconstNull X0.here hx rfl (hb hby d5_2) k) ?_
  show Go _ _ _ _ (s₁.setTop (mkF m 3 #[rv sa, rv sb] [.null, (.ref sb), (.ref sa)]))
  obtain ⟨_, _, ⟨T1, L1, kk1, nn1⟩, -, X1, ⟨Lc1, hQ1, lq1, yq1, zq1⟩, st1⟩ := X0.specialBack hx (y := mn6) rfl hown (mvT hZ (w48 hw)) (mvT hZ (w49 hw)) (mvT hZ (w50 hw)) (by decide) (backOf (W := 0) (rm_strasb0 l Z a0 hw [] sa sb va kv u0 u1 ml G1 h0 n0 (Nat.le_trans Z0 (Nat.le_refl _)) H0 H1 H2 g_sa H4 H5 H6 H7 H8 H9 CS CSn O0) hZ (w50 hw) (w24 hw) (by decide) (by decide)) (g := (mkF m 3 #[rv sa, rv sb] [.null, (.ref sb), (.ref sa)])) rfl (by rw [hml]; rfl) (Steps.refl _) (a := sa) (argsL := [(.ref sb), .null]) (rest := []) (lenOf pd_8 rfl) rfl (by show 2 * 0 + _ ≤ _; exact Nat.le_of_eq rfl) (hb hby d5_3) (fun _ _ => ⟨rfl, e0, (by decide : 0 + 1 ≤ _), (by decide : 0 + 0 ≤ _)⟩)
  dsimp only [Pt.U, Pt.locs, Pt.cells, Pt.slots] at X1 lq1 yq1 zq1 st1 hQ1
  subst lq1 yq1 zq1
  obtain ⟨h1, e1⟩ : ∃ z, T1.heap = z := ⟨_, rfl⟩
  rw [e1] at hQ1
  obtain ⟨ta_1, kt_1, rfl, N1q, K1, gf1_0, lf1_0, p1_1, p1_2, p1_3, p1_4⟩ := hQ1
  have N1 := Fr.app N0 N1q
  refine go_tr st1 ?_
  show Go _ _ _ _ (T1.setTop (mkF m 6 #[rv sa, rv sb] []))
  have ke2 : Keep h0 h1 [sa] := (Keep.trans (Keep.refl h0 [sa]) K1 (allS (Or.inl (List.mem_of_getElem? (i := 0) rfl)) all0))
  obtain ⟨fs, hr, hrun, hended, hW, hsame⟩ := X1.leave (v := none) (fun _ => rfl)
  refine ⟨_, _, ?_, hrun, hended, _, _, rfl, ?_, ⟨_, rfl⟩, hW, hsame.mono (by decide) (by decide)⟩
  · exact X1.returnOut hx Bd.returns (hb hby d5_6) hr
  · show Q_strsb0 _ _ _ _ _ _ _ _ _ _ _ _ T1.heap _
    rw [e1]
    exact ⟨ta_1, kt_1, rfl, N1, ke2, gf1_0, lf1_0, p1_1, p1_2, p1_3, p1_4⟩
def Q_tos0 (Z : State) (sb : Addr) (va : Addr) (kv : ClassId) (u0 : Int32) (u1 : Int32) (ml : Int32) (G1 : Int32) (h0 : Heap) (n0 : Nat) (vR : Option Value) (h : Heap) (L : List Loc) : Prop := ∃ (sa : Addr) (ta : Addr) (kt : ClassId), vR = some (.ref sa) ∧ Fr n0 L ∧ Keep h0 h [] ∧ n0 ≤ sa ∧ h0.size ≤ sa ∧ n0 ≤ ta ∧ h0.size ≤ ta ∧ (Exa Z h sa cST) ∧ (Fld Z h sa cST "value" "[B" (.ref ta)) ∧ (Fld Z h sa cST "coder" "B" (.int 0)) ∧ (Arv Z h ta kt .byte (0 : Int32) [] (.int (0 : Int32)))
theorem ef_tos0 (m : MethodId) (x0 : Addr) : entryFrame m #[(.ref x0)] 1 = mkF m 0 #[.val (.ref x0)] [] := by first | (simp [entryFrame, mkF, argsToLocals, Value.category]; done) | rfl
set_option maxRecDepth 65536 in
set_option maxHeartbeats 40000000 in
theorem rm_tos0 (l : Launch) (Z : State) (a0 : Array Value) (hw : ∀ d ∈ tables_1, d.before a0 Z = true) (ws : List Jvm.Cond) (sb : Addr) (va : Addr) (kv : ClassId) (u0 : Int32) (u1 : Int32) (ml : Int32) (G1 : Int32) (h0 : Heap) (n0 : Nat) (Z0 : n0 ≤ h0.size) (H0 : Exa Z h0 sb cSB) (H1 : Fld Z h0 sb cAS "value" "[B" (.ref va)) (H2 : Fld Z h0 sb cAS "coder" "B" (.int 0)) (H3 : Fld Z h0 sb cAS "count" "I" (.int 0)) (H4 : Fld Z h0 sb cAS "maybeLatin1" "Z" (.int ml)) (H5 : Arv Z h0 va kv .byte (16 : Int32) [(.int u0), (.int u1)] (.int (0 : Int32))) (CS : Sta Z Z.heap "java/lang/String" "COMPACT_STRINGS" "Z" (.int G1)) (CSn : ¬ (G1 = (0 : Int32))) (O0 : Old Z n0 h0) :
    MetFree l mn4 (head1 (Jvm.Cond.code mn4 jdk_67_method_42_code 1 (some (.object "java/lang/String")) :: ws) ({ frames := 5, cells := 2, slots := 4, locals := 79 } : Room)) (fun a U => a = #[(.ref sb)] ∧ Z.Warmed39 U.vm ∧ U.heap = h0) (fun _ _ _ _ _ => True) (fun _ U o U' => ∃ v L, o = .returned v ∧ Q_tos0 Z sb va kv u0 u1 ml G1 h0 n0 v U'.heap L ∧ FrameEnd U o U' L ({ frames := 5, cells := 2, slots := 4, locals := 79 } : Room).cells ({ frames := 5, cells := 2, slots := 4, locals := 79 } : Room).slots) := by
  refine MetFree.of_bodySF (plainFor_of_name pn_java_lang_StringBuilder) hisR ?_
  intro p e s m args below meth c s₁ Bd hml0 hP hK
  obtain ⟨rfl, hZ, hh⟩ := hP
  have hx := Bd.exec
  have hby := Bd.bytes
  have hml : c.maxLocals = 1 := hml0
  have hown : s.vm.findClass "java/lang/StringBuilder" = some m.cls := findClass_of_methodNamed Bd.named
  have hnm := (name_of_methodNamed Bd.named Bd.method).1
  have X0 : Stand p l e ({ frames := 5, cells := 2, slots := 4, locals := 79 } : Room) s m #[(.ref sb)] below meth c s₁ [] 0 0 := Stand.of_body Bd
  have e0 : s₁.heap = h0 := by rw [← hh, Bd.state]; rfl
  have N0 := Fr.nil n0
  refine go_st (fun t k => castTop (ef_tos0 m sb) k) ?_
  show Go _ _ _ _ (s₁.setTop (mkF m 0 #[rv sb] []))
  obtain ⟨T1, h1, X1, e1, E1, A1, D1, -, st1⟩ := newO X0 hx hZ hown (w42 hw) (w43 hw) (w24 hw) e0 (g := (mkF m 0 #[rv sb] [])) rfl (hb hby d4_0) (by decide) (by decide)
  obtain ⟨b1, gq1⟩ : ∃ z, z = h0.size := ⟨_, rfl⟩
  rw [← gq1] at A1 D1 st1
  have f2 : Fld Z h1 b1 cST "coder" "B" (.int 0) := D1 (Or.inr (w74 hw)) (ty := .byte) (by decide)
  have f3 : Fld Z h1 b1 cST "value" "[B" .null := D1 (Or.inr (w94 hw)) (ty := (.array .byte)) (by decide)
  refine go_st (fun t k => st1 t k) ?_
  refine go_st (fun t k => XS.dup X1.here hx rfl (hb hby d4_3) rfl rfl k) ?_
  refine go_st (fun t k => XS.aloadN X1.here hx rfl (hb hby d4_4) rfl rfl k) ?_
  show Go _ _ _ _ (T1.setTop (mkF m 5 #[rv sb] [(.ref sb), (.ref b1), (.ref b1)]))
  have g_b1 : n0 ≤ b1 := Nat.le_trans (Nat.le_trans Z0 (Nat.le_refl _)) (Nat.le_of_eq gq1.symm)
  have f4 : Exa Z h1 sb cSB := (H0.ext E1)
  have f5 : Fld Z h1 sb cAS "value" "[B" (.ref va) := (H1.ext E1)
  have f6 : Fld Z h1 sb cAS "coder" "B" (.int 0) := (H2.ext E1)
  have f7 : Fld Z h1 sb cAS "count" "I" (.int 0) := (H3.ext E1)
  have f8 : Fld Z h1 sb cAS "maybeLatin1" "Z" (.int ml) := (H4.ext E1)
  have f9 : Arv Z h1 va kv .byte (16 : Int32) [(.int u0), (.int u1)] (.int (0 : Int32)) := (H5.ext E1)
  have oe10 : Old Z n0 h1 := (Old.ext O0 E1)
  obtain ⟨_, _, ⟨T11, L11, kk11, nn11⟩, -, X11, ⟨Lc11, hQ11, lq11, yq11, zq11⟩, st11⟩ := X1.specialBack hx (y := mn5) rfl hown (mvT hZ (w44 hw)) (mvT hZ (w45 hw)) (mvT hZ (w47 hw)) (by decide) (backOf (W := 1) (rm_strsb0 l Z a0 hw [] b1 sb va kv u0 u1 ml G1 h1 n0 (Nat.le_trans Z0 E1.1) A1 f3 f2 g_b1 f4 f5 f6 f7 f8 f9 CS CSn oe10) hZ (w47 hw) (w24 hw) (by decide) (by decide)) (g := (mkF m 5 #[rv sb] [(.ref sb), (.ref b1), (.ref b1)])) rfl (by rw [hml]; rfl) (Steps.refl _) (a := b1) (argsL := [(.ref sb)]) (rest := [(.ref b1)]) (lenOf pd_9 rfl) rfl (by show 2 * 0 + _ ≤ _; exact Nat.le_of_eq rfl) (hb hby d4_5) (fun _ _ => ⟨rfl, e1, (by decide : 1 + 1 ≤ _), (by decide : 4 + 0 ≤ _)⟩)
  dsimp only [Pt.U, Pt.locs, Pt.cells, Pt.slots] at X11 lq11 yq11 zq11 st11 hQ11
  subst lq11 yq11 zq11
  obtain ⟨h11, e11⟩ : ∃ z, T11.heap = z := ⟨_, rfl⟩
  rw [e11] at hQ11
  obtain ⟨ta_11, kt_11, rfl, N11q, K11, gf11_0, lf11_0, p11_1, p11_2, p11_3, p11_4⟩ := hQ11
  have N11 := Fr.app N0 N11q
  refine go_tr st11 ?_
  show Go _ _ _ _ (T11.setTop (mkF m 8 #[rv sb] [(.ref b1)]))
  have ke12 : Keep h0 h1 [] := (Keep.ext (Keep.refl h0 []) E1)
  have ke13 : Keep h0 h11 [] := (Keep.trans ke12 K11 (allS (Or.inr (Nat.le_of_eq gq1.symm)) all0))
  obtain ⟨fs, hr, hrun, hended, hW, hsame⟩ := X11.leave (v := some (.ref b1)) (fun h => by rw [Bd.returns] at h; cases h)
  refine ⟨_, _, ?_, hrun, hended, _, _, rfl, ?_, ⟨_, rfl⟩, hW, hsame.mono (by decide) (by decide)⟩
  · exact retOut X11 hx Bd.returns rfl (Or.inr (Or.inr (Or.inr (Or.inr ⟨rfl, rfl, rfl⟩)))) (hb hby d4_8) hr
  · show Q_tos0 _ _ _ _ _ _ _ _ _ _ _ T11.heap _
    rw [e11]
    exact ⟨b1, ta_11, kt_11, rfl, N11, ke13, g_b1, (Nat.le_of_eq gq1.symm), gf11_0, (Nat.le_trans E1.1 lf11_0), p11_1, p11_2, p11_3, p11_4⟩
def Q_ens0 (Z : State) (sb : Addr) (va : Addr) (kv : ClassId) (u0 : Int32) (u1 : Int32) (h0 : Heap) (n0 : Nat) (vR : Option Value) (h : Heap) (L : List Loc) : Prop := vR = none ∧ Fr n0 L ∧ h = h0
theorem ef_ens0 (m : MethodId) (x0 : Addr) (x1 : Int32) : entryFrame m #[(.ref x0), (.int x1)] 3 = mkF m 0 #[.val (.ref x0), .val (.int x1), .unset] [] := by first | (simp [entryFrame, mkF, argsToLocals, Value.category]; done) | rfl
set_option maxRecDepth 65536 in
set_option maxHeartbeats 40000000 in
theorem rm_ens0 (l : Launch) (Z : State) (a0 : Array Value) (hw : ∀ d ∈ tables_1, d.before a0 Z = true) (ws : List Jvm.Cond) (sb : Addr) (va : Addr) (kv : ClassId) (u0 : Int32) (u1 : Int32) (h0 : Heap) (n0 : Nat) (Z0 : n0 ≤ h0.size) (H0 : Fld Z h0 sb cAS "value" "[B" (.ref va)) (H1 : Fld Z h0 sb cAS "coder" "B" (.int 0)) (H2 : Arv Z h0 va kv .byte (16 : Int32) [(.int u0), (.int u1)] (.int (0 : Int32))) :
    MetFree l mn17 (head1 (Jvm.Cond.code mn17 jdk_68_method_9_code 3 none :: ws) ({ frames := 0, cells := 0, slots := 0, locals := 0 } : Room)) (fun a U => a = #[(.ref sb), (.int 0)] ∧ Z.Warmed39 U.vm ∧ U.heap = h0) (fun _ _ _ _ _ => True) (fun _ U o U' => ∃ v L, o = .returned v ∧ Q_ens0 Z sb va kv u0 u1 h0 n0 v U'.heap L ∧ FrameEnd U o U' L ({ frames := 0, cells := 0, slots := 0, locals := 0 } : Room).cells ({ frames := 0, cells := 0, slots := 0, locals := 0 } : Room).slots) := by
  refine MetFree.of_bodySF (plainFor_of_name pn_java_lang_AbstractStringBuilder) hisR ?_
  intro p e s m args below meth c s₁ Bd hml0 hP hK
  obtain ⟨rfl, hZ, hh⟩ := hP
  have hx := Bd.exec
  have hby := Bd.bytes
  have hml : c.maxLocals = 3 := hml0
  have hown : s.vm.findClass "java/lang/AbstractStringBuilder" = some m.cls := findClass_of_methodNamed Bd.named
  have hnm := (name_of_methodNamed Bd.named Bd.method).1
  have X0 : Stand p l e ({ frames := 0, cells := 0, slots := 0, locals := 0 } : Room) s m #[(.ref sb), (.int 0)] below meth c s₁ [] 0 0 := Stand.of_body Bd
  have e0 : s₁.heap = h0 := by rw [← hh, Bd.state]; rfl
  have N0 := Fr.nil n0
  refine go_st (fun t k => castTop (ef_ens0 m sb (0 : Int32)) k) ?_
  show Go _ _ _ _ (s₁.setTop (mkF m 0 #[rv sb, iv 0, .unset] []))
  refine go_st (fun t k => XS.aloadN X0.here hx rfl (hb hby d17_0) rfl rfl k) ?_
  show Go _ _ _ _ (s₁.setTop (mkF m 1 #[rv sb, iv 0, .unset] [(.ref sb)]))
  obtain ⟨T1, X1, e1, st1⟩ := getF X0 hx hZ hown (host := "") (Or.inl (w26 hw)) Via.refl e0 H0 (g := (mkF m 1 #[rv sb, iv 0, .unset] [(.ref sb)])) rfl rfl (hb hby d17_1)
  refine go_st (fun t k => st1 t k) ?_
  show Go _ _ _ _ (T1.setTop (mkF m 4 #[rv sb, iv 0, .unset] [(.ref va)]))
  obtain ⟨zc2, zA2, zq2, zS2, zN2, zH2, zG2⟩ := id H2
  refine go_st (fun t k => X1.arraylength hx (by rw [e1]; exact zA2.1) (State.isArrayOf_alike hZ.alike zA2.2.1) (g := (mkF m 4 #[rv sb, iv 0, .unset] [(.ref va)])) rfl rfl (hb hby d17_4) t k) ?_
  rw [len_of zS2 zN2]
  refine go_st (fun t k => XS.aloadN X1.here hx rfl (hb hby d17_5) rfl rfl k) ?_
  show Go _ _ _ _ (T1.setTop (mkF m 6 #[rv sb, iv 0, .unset] [(.ref sb), (.int 16)]))
  obtain ⟨T3, X3, e3, st3⟩ := getF X1 hx hZ hown (host := "") (Or.inl (w28 hw)) Via.refl e1 H1 (g := (mkF m 6 #[rv sb, iv 0, .unset] [(.ref sb), (.int 16)])) rfl rfl (hb hby d17_6)
  refine go_st (fun t k => st3 t k) ?_
  show Go _ _ _ _ (T3.setTop (mkF m 9 #[rv sb, iv 0, .unset] [(.int 0), (.int 16)]))
  refine go_st (fun t k => XS.ishr X3.here hx rfl (hb hby d17_9) rfl k) ?_
  rw [show ((16 : Int32) >>> ((0 : Int32) &&& 31)) = (16 : Int32) from by decide]
  show Go _ _ _ _ (T3.setTop (mkF m 10 #[rv sb, iv 0, .unset] [(.int 16)]))
  refine go_st (fun t k => XS.istoreN X3.here hx rfl (hb hby d17_10) rfl (l' := #[rv sb, iv 0, iv 16]) rfl k) ?_
  refine go_st (fun t k => XS.iloadN X3.here hx rfl (hb hby d17_11) rfl k) ?_
  refine go_st (fun t k => XS.iloadN X3.here hx rfl (hb hby d17_12) rfl k) ?_
  show Go _ _ _ _ (T3.setTop (mkF m 13 #[rv sb, iv 0, iv 16] [(.int 16), (.int 0)]))
  refine go_st (fun t k => XS.isub X3.here hx rfl (hb hby d17_13) rfl k) ?_
  rw [show ((0 : Int32) - (16 : Int32)) = (-16 : Int32) from by decide]
  show Go _ _ _ _ (T3.setTop (mkF m 14 #[rv sb, iv 0, iv 16] [(.int (-16))]))
  refine go_st (fun t k => XS.ifYes X3.here hx rfl (pc0 := 14) (pc' := 38) rfl (hb hby d17_14) rfl ((if0 _ _).trans (flt ((by decide) : ¬ ((0 : Int32) < (-16 : Int32)))).2.2.2) (by decide) (by decide) k) ?_
  show Go _ _ _ _ (T3.setTop (mkF m 38 #[rv sb, iv 0, iv 16] []))
  obtain ⟨fs, hr, hrun, hended, hW, hsame⟩ := X3.leave (v := none) (fun _ => rfl)
  refine ⟨_, _, ?_, hrun, hended, _, _, rfl, ?_, ⟨_, rfl⟩, hW, hsame.mono (by decide) (by decide)⟩
  · exact X3.returnOut hx Bd.returns (hb hby d17_38) hr
  · show Q_ens0 _ _ _ _ _ _ _ _ _ T3.heap _
    rw [e3]
    exact ⟨rfl, N0, rfl⟩
def Q_asbset0 (Z : State) (sb : Addr) (va : Addr) (kv : ClassId) (u0 : Int32) (u1 : Int32) (ml : Int32) (G1 : Int32) (h0 : Heap) (n0 : Nat) (vR : Option Value) (h : Heap) (L : List Loc) : Prop := vR = none ∧ Fr n0 L ∧ Keep h0 h [sb] ∧ (Exa Z h sb cSB) ∧ (Fld Z h sb cAS "value" "[B" (.ref va)) ∧ (Fld Z h sb cAS "coder" "B" (.int 0)) ∧ (Fld Z h sb cAS "count" "I" (.int 0)) ∧ (Fld Z h sb cAS "maybeLatin1" "Z" (.int ml))
theorem ef_asbset0 (m : MethodId) (x0 : Addr) (x1 : Int32) : entryFrame m #[(.ref x0), (.int x1)] 2 = mkF m 0 #[.val (.ref x0), .val (.int x1)] [] := by first | (simp [entryFrame, mkF, argsToLocals, Value.category]; done) | rfl
set_option maxRecDepth 65536 in
set_option maxHeartbeats 40000000 in
theorem rm_asbset0 (l : Launch) (Z : State) (a0 : Array Value) (hw : ∀ d ∈ tables_1, d.before a0 Z = true) (ws : List Jvm.Cond) (sb : Addr) (va : Addr) (kv : ClassId) (u0 : Int32) (u1 : Int32) (ml : Int32) (G1 : Int32) (h0 : Heap) (n0 : Nat) (Z0 : n0 ≤ h0.size) (H0 : Exa Z h0 sb cSB) (H1 : Fld Z h0 sb cAS "value" "[B" (.ref va)) (H2 : Fld Z h0 sb cAS "coder" "B" (.int 0)) (H3 : Fld Z h0 sb cAS "count" "I" (.int 0)) (H4 : Fld Z h0 sb cAS "maybeLatin1" "Z" (.int ml)) (H5 : Arv Z h0 va kv .byte (16 : Int32) [(.int u0), (.int u1)] (.int (0 : Int32))) (g_sb : n0 ≤ sb) (CS : Sta Z Z.heap "java/lang/String" "COMPACT_STRINGS" "Z" (.int G1)) (CSn : ¬ (G1 = (0 : Int32))) (O0 : Old Z n0 h0) :
    MetFree l mn16 (head1 (Jvm.Cond.code mn16 jdk_68_method_13_code 2 none :: ws) ({ frames := 1, cells := 0, slots := 0, locals := 14 } : Room)) (fun a U => a = #[(.ref sb), (.int 0)] ∧ Z.Warmed39 U.vm ∧ U.heap = h0) (fun _ _ _ _ _ => True) (fun _ U o U' => ∃ v L, o = .returned v ∧ Q_asbset0 Z sb va kv u0 u1 ml G1 h0 n0 v U'.heap L ∧ FrameEnd U o U' L ({ frames := 1, cells := 0, slots := 0, locals := 14 } : Room).cells ({ frames := 1, cells := 0, slots := 0, locals := 14 } : Room).slots) := by
  refine MetFree.of_bodySF (plainFor_of_name pn_java_lang_AbstractStringBuilder) hisR ?_
  intro p e s m args below meth c s₁ Bd hml0 hP hK
  obtain ⟨rfl, hZ, hh⟩ := hP
  have hx := Bd.exec
  have hby := Bd.bytes
  have hml : c.maxLocals = 2 := hml0
  have hown : s.vm.findClass "java/lang/AbstractStringBuilder" = some m.cls := findClass_of_methodNamed Bd.named
  have hnm := (name_of_methodNamed Bd.named Bd.method).1
  have X0 : Stand p l e ({ frames := 1, cells := 0, slots := 0, locals := 14 } : Room) s m #[(.ref sb), (.int 0)] below meth c s₁ [] 0 0 := Stand.of_body Bd
  have e0 : s₁.heap = h0 := by rw [← hh, Bd.state]; rfl
  have N0 := Fr.nil n0
  refine go_st (fun t k => castTop (ef_asbset0 m sb (0 : Int32)) k) ?_
  show Go _ _ _ _ (s₁.setTop (mkF m 0 #[rv sb, iv 0] []))
  refine go_st (fun t k => XS.iloadN X0.here hx rfl (hb hby d16_0) rfl k) ?_
  show Go _ _ _ _ (s₁.setTop (mkF m 1 #[rv sb, iv 0] [(.int 0)]))
  refine go_st (fun t k => XS.ifYes X0.here hx rfl (pc0 := 1) (pc' := 13) rfl (hb hby d16_1) rfl ((if0 _ _).trans (flt ((by decide) : ¬ ((0 : Int32) < (0 : Int32)))).2.1) (by decide) (by decide) k) ?_
  show Go _ _ _ _ (s₁.setTop (mkF m 13 #[rv sb, iv 0] []))
  refine go_st (fun t k => XS.aloadN X0.here hx rfl (hb hby d16_13) rfl rfl k) ?_
  refine go_st (fun t k => XS.iloadN X0.here hx rfl (hb hby d16_14) rfl k) ?_
  show Go _ _ _ _ (s₁.setTop (mkF m 15 #[rv sb, iv 0] [(.int 0), (.ref sb)]))
  obtain ⟨cq1, q1, q1'⟩ := H0.cell
  obtain ⟨_, _, ⟨T1, L1, kk1, nn1⟩, -, X1, ⟨Lc1, hQ1, lq1, yq1, zq1⟩, st1⟩ := X0.privateBack hx (y := mn17) hown (mvT hZ (w104 hw)) (mvT hZ (w105 hw)) (mvT hZ (sel_priv (w106 hw) (w105 hw) (nf_same (y := mn17) (y' := mn7) rfl (w54 hw) (notFace_of_selects (w55 hw))) (by decide))) (Cond.privateMethod_at (mvP hZ (w106 hw) (args := #[]))) (mvT hZ (w108 hw)) (by decide) (backOf (W := 0) (rm_ens0 l Z a0 hw [] sb va kv u0 u1 h0 n0 (Nat.le_trans Z0 (Nat.le_refl _)) H1 H2 H5) hZ (w108 hw) (w20 hw) (by decide) (by decide)) (g := (mkF m 15 #[rv sb, iv 0] [(.int 0), (.ref sb)])) rfl (by rw [hml]; rfl) (Steps.refl _) (a := sb) (by rw [e0]; exact q1) q1' (argsL := [(.int 0)]) (rest := []) (lenOf pd_0 rfl) rfl (by show 2 * 0 + _ ≤ _; exact Nat.le_of_eq rfl) (hb hby d16_15) (fun _ _ => ⟨rfl, e0, (by decide : 0 + 0 ≤ _), (by decide : 0 + 0 ≤ _)⟩)
  dsimp only [Pt.U, Pt.locs, Pt.cells, Pt.slots] at X1 lq1 yq1 zq1 st1 hQ1
  subst lq1 yq1 zq1
  obtain ⟨h1, e1⟩ : ∃ z, T1.heap = z := ⟨_, rfl⟩
  rw [e1] at hQ1
  obtain ⟨rfl, N1q, he1⟩ := hQ1
  have N1 := Fr.app N0 N1q
  rw [he1] at e1
  refine go_tr st1 ?_
  refine go_st (fun t k => XS.aloadN X1.here hx rfl (hb hby d16_18) rfl rfl k) ?_
  show Go _ _ _ _ (T1.setTop (mkF m 19 #[rv sb, iv 0] [(.ref sb)]))
  obtain ⟨T2, X2, e2, st2⟩ := getF X1 hx hZ hown (host := "") (Or.inl (w66 hw)) Via.refl e1 H3 (g := (mkF m 19 #[rv sb, iv 0] [(.ref sb)])) rfl rfl (hb hby d16_19)
  refine go_st (fun t k => st2 t k) ?_
  refine go_st (fun t k => XS.iloadN X2.here hx rfl (hb hby d16_22) rfl k) ?_
  show Go _ _ _ _ (T2.setTop (mkF m 23 #[rv sb, iv 0] [(.int 0), (.int 0)]))
  refine go_st (fun t k => XS.icmpYes X2.here hx rfl (pc0 := 23) (pc' := 63) rfl (hb hby d16_23) rfl (flt ((by decide) : ¬ ((0 : Int32) < (0 : Int32)))).2.1 (by decide) (by decide) k) ?_
  show Go _ _ _ _ (T2.setTop (mkF m 63 #[rv sb, iv 0] []))
  refine go_st (fun t k => XS.aloadN X2.here hx rfl (hb hby d16_63) rfl rfl k) ?_
  show Go _ _ _ _ (T2.setTop (mkF m 64 #[rv sb, iv 0] [(.ref sb)]))
  obtain ⟨T3, X3, e3, st3⟩ := getF X2 hx hZ hown (host := "") (Or.inl (w66 hw)) Via.refl e2 H3 (g := (mkF m 64 #[rv sb, iv 0] [(.ref sb)])) rfl rfl (hb hby d16_64)
  refine go_st (fun t k => st3 t k) ?_
  refine go_st (fun t k => XS.iloadN X3.here hx rfl (hb hby d16_67) rfl k) ?_
  show Go _ _ _ _ (T3.setTop (mkF m 68 #[rv sb, iv 0] [(.int 0), (.int 0)]))
  refine go_st (fun t k => XS.icmpYes X3.here hx rfl (pc0 := 68) (pc' := 76) rfl (hb hby d16_68) rfl (flt ((by decide) : ¬ ((0 : Int32) < (0 : Int32)))).2.2.2 (by decide) (by decide) k) ?_
  show Go _ _ _ _ (T3.setTop (mkF m 76 #[rv sb, iv 0] []))
  refine go_st (fun t k => XS.aloadN X3.here hx rfl (hb hby d16_76) rfl rfl k) ?_
  refine go_st (fun t k => XS.iloadN X3.here hx rfl (hb hby d16_77) rfl k) ?_
  show Go _ _ _ _ (T3.setTop (mkF m 78 #[rv sb, iv 0] [(.int 0), (.ref sb)]))
  obtain ⟨T4, h4, X4, e4, W4, st4⟩ := putF X3 hx hZ hown (host := "") (Or.inl (w66 hw)) Via.refl e3 H3 H0 (Or.inl (w67 hw)) (w11 hw) (ty := .int) (by decide) rfl rfl (g := (mkF m 78 #[rv sb, iv 0] [(.int 0), (.ref sb)])) rfl rfl (hb hby d16_78)
  have N4 := Fr.snoc X4 N1 g_sb
  have f5 : Fld Z h4 sb cAS "count" "I" (.int 0) := H3.same W4
  refine go_st (fun t k => st4 t k) ?_
  show Go _ _ _ _ (T4.setTop (mkF m 81 #[rv sb, iv 0] []))
  have f6 : Exa Z h4 sb cSB := (H0.wr W4)
  have f7 : Fld Z h4 sb cAS "value" "[B" (.ref va) := (H1.other W4 (Or.inr (slot_ne (Or.inl (w27 hw)) (Or.inl (w67 hw)) (by decide) (t := (.array .byte)) (t' := .int) (by decide) (by decide))))
  have f8 : Fld Z h4 sb cAS "coder" "B" (.int 0) := (H2.other W4 (Or.inr (slot_ne (Or.inl (w29 hw)) (Or.inl (w67 hw)) (by decide) (t := .byte) (t' := .int) (by decide) (by decide))))
  have f9 : Fld Z h4 sb cAS "maybeLatin1" "Z" (.int ml) := (H4.other W4 (Or.inr (slot_ne (Or.inl (w139 hw)) (Or.inl (w67 hw)) (by decide) (t := .boolean) (t' := .int) (by decide) (by decide))))
  have ke10 : Keep h0 h4 [sb] := (Keep.wr (Keep.refl h0 [sb]) W4 (Or.inl (List.mem_of_getElem? (i := 0) rfl)))
  obtain ⟨fs, hr, hrun, hended, hW, hsame⟩ := X4.leave (v := none) (fun _ => rfl)
  refine ⟨_, _, ?_, hrun, hended, _, _, rfl, ?_, ⟨_, rfl⟩, hW, hsame.mono (by decide) (by decide)⟩
  · exact X4.returnOut hx Bd.returns (hb hby d16_81) hr
  · show Q_asbset0 _ _ _ _ _ _ _ _ _ _ _ T4.heap _
    rw [e4]
    exact ⟨rfl, N4, ke10, f6, f7, f8, f5, f9⟩
def Q_sbset0 (Z : State) (sb : Addr) (va : Addr) (kv : ClassId) (u0 : Int32) (u1 : Int32) (ml : Int32) (G1 : Int32) (h0 : Heap) (n0 : Nat) (vR : Option Value) (h : Heap) (L : List Loc) : Prop := vR = none ∧ Fr n0 L ∧ Keep h0 h [sb] ∧ (Exa Z h sb cSB) ∧ (Fld Z h sb cAS "value" "[B" (.ref va)) ∧ (Fld Z h sb cAS "coder" "B" (.int 0)) ∧ (Fld Z h sb cAS "count" "I" (.int 0)) ∧ (Fld Z h sb cAS "maybeLatin1" "Z" (.int ml))
theorem ef_sbset0 (m : MethodId) (x0 : Addr) (x1 : Int32) : entryFrame m #[(.ref x0), (.int x1)] 2 = mkF m 0 #[.val (.ref x0), .val (.int x1)] [] := by first | (simp [entryFrame, mkF, argsToLocals, Value.category]; done) | rfl
set_option maxRecDepth 65536 in
set_option maxHeartbeats 40000000 in
theorem rm_sbset0 (l : Launch) (Z : State) (a0 : Array Value) (hw : ∀ d ∈ tables_1, d.before a0 Z = true) (ws : List Jvm.Cond) (sb : Addr) (va : Addr) (kv : ClassId) (u0 : Int32) (u1 : Int32) (ml : Int32) (G1 : Int32) (h0 : Heap) (n0 : Nat) (Z0 : n0 ≤ h0.size) (H0 : Exa Z h0 sb cSB) (H1 : Fld Z h0 sb cAS "value" "[B" (.ref va)) (H2 : Fld Z h0 sb cAS "coder" "B" (.int 0)) (H3 : Fld Z h0 sb cAS "count" "I" (.int 0)) (H4 : Fld Z h0 sb cAS "maybeLatin1" "Z" (.int ml)) (H5 : Arv Z h0 va kv .byte (16 : Int32) [(.int u0), (.int u1)] (.int (0 : Int32))) (g_sb : n0 ≤ sb) (CS : Sta Z Z.heap "java/lang/String" "COMPACT_STRINGS" "Z" (.int G1)) (CSn : ¬ (G1 = (0 : Int32))) (O0 : Old Z n0 h0) :
    MetFree l mn15 (head1 (Jvm.Cond.code mn15 jdk_67_method_89_code 2 none :: ws) ({ frames := 2, cells := 0, slots := 0, locals := 27 } : Room)) (fun a U => a = #[(.ref sb), (.int 0)] ∧ Z.Warmed39 U.vm ∧ U.heap = h0) (fun _ _ _ _ _ => True) (fun _ U o U' => ∃ v L, o = .returned v ∧ Q_sbset0 Z sb va kv u0 u1 ml G1 h0 n0 v U'.heap L ∧ FrameEnd U o U' L ({ frames := 2, cells := 0, slots := 0, locals := 27 } : Room).cells ({ frames := 2, cells := 0, slots := 0, locals := 27 } : Room).slots) := by
  refine MetFree.of_bodySF (plainFor_of_name pn_java_lang_StringBuilder) hisR ?_
  intro p e s m args below meth c s₁ Bd hml0 hP hK
  obtain ⟨rfl, hZ, hh⟩ := hP
  have hx := Bd.exec
  have hby := Bd.bytes
  have hml : c.maxLocals = 2 := hml0
  have hown : s.vm.findClass "java/lang/StringBuilder" = some m.cls := findClass_of_methodNamed Bd.named
  have hnm := (name_of_methodNamed Bd.named Bd.method).1
  have X0 : Stand p l e ({ frames := 2, cells := 0, slots := 0, locals := 27 } : Room) s m #[(.ref sb), (.int 0)] below meth c s₁ [] 0 0 := Stand.of_body Bd
  have e0 : s₁.heap = h0 := by rw [← hh, Bd.state]; rfl
  have N0 := Fr.nil n0
  refine go_st (fun t k => castTop (ef_sbset0 m sb (0 : Int32)) k) ?_
  show Go _ _ _ _ (s₁.setTop (mkF m 0 #[rv sb, iv 0] []))
  refine go_st (fun t k => XS.aloadN X0.here hx rfl (hb hby d15_0) rfl rfl k) ?_
  refine go_st (fun t k => XS.iloadN X0.here hx rfl (hb hby d15_1) rfl k) ?_
  show Go _ _ _ _ (s₁.setTop (mkF m 2 #[rv sb, iv 0] [(.int 0), (.ref sb)]))
  obtain ⟨_, _, ⟨T1, L1, kk1, nn1⟩, -, X1, ⟨Lc1, hQ1, lq1, yq1, zq1⟩, st1⟩ := superBack X0 hx hZ (y := mn16) hown (w100 hw) (same_self (w101 hw) (nf_same (y := mn16) (y' := mn7) rfl (w54 hw) (notFace_of_selects (w55 hw))) (by decide)) (w101 hw) (w64 hw) (by decide) (backOf (W := 0) (rm_asbset0 l Z a0 hw [] sb va kv u0 u1 ml G1 h0 n0 (Nat.le_trans Z0 (Nat.le_refl _)) H0 H1 H2 H3 H4 H5 g_sb CS CSn O0) hZ (w103 hw) (w20 hw) (by decide) (by decide)) e0 (a := sb) (Ins.self H0) (g := (mkF m 2 #[rv sb, iv 0] [(.int 0), (.ref sb)])) rfl (by rw [hml]; rfl) (w103 hw) (argsL := [(.int 0)]) (rest := []) (lenOf pd_0 rfl) rfl (by show 2 * 0 + _ ≤ _; exact Nat.le_of_eq rfl) (hb hby d15_2) (fun _ _ => ⟨rfl, e0, (by decide : 0 + 0 ≤ _), (by decide : 0 + 0 ≤ _)⟩)
  dsimp only [Pt.U, Pt.locs, Pt.cells, Pt.slots] at X1 lq1 yq1 zq1 st1 hQ1
  subst lq1 yq1 zq1
  obtain ⟨h1, e1⟩ : ∃ z, T1.heap = z := ⟨_, rfl⟩
  rw [e1] at hQ1
  obtain ⟨rfl, N1q, K1, p1_0, p1_1, p1_2, p1_3, p1_4⟩ := hQ1
  have N1 := Fr.app N0 N1q
  refine go_tr st1 ?_
  show Go _ _ _ _ (T1.setTop (mkF m 5 #[rv sb, iv 0] []))
  have ke2 : Keep h0 h1 [sb] := (Keep.trans (Keep.refl h0 [sb]) K1 (allS (Or.inl (List.mem_of_getElem? (i := 0) rfl)) all0))
  obtain ⟨fs, hr, hrun, hended, hW, hsame⟩ := X1.leave (v := none) (fun _ => rfl)
  refine ⟨_, _, ?_, hrun, hended, _, _, rfl, ?_, ⟨_, rfl⟩, hW, hsame.mono (by decide) (by decide)⟩
  · exact X1.returnOut hx Bd.returns (hb hby d15_5) hr
  · show Q_sbset0 _ _ _ _ _ _ _ _ _ _ _ T1.heap _
    rw [e1]
    exact ⟨rfl, N1, ke2, p1_0, p1_1, p1_2, p1_3, p1_4⟩
def Q_drain0 (Z : State) (jw : Addr) (sb : Addr) (va : Addr) (kv : ClassId) (u0 : Int32) (u1 : Int32) (ml : Int32) (G1 : Int32) (h0 : Heap) (n0 : Nat) (vR : Option Value) (h : Heap) (L : List Loc) : Prop := ∃ (sa : Addr) (ta : Addr) (kt : ClassId), vR = some (.ref sa) ∧ Fr n0 L ∧ Keep h0 h [sb] ∧ n0 ≤ sa ∧ h0.size ≤ sa ∧ n0 ≤ ta ∧ h0.size ≤ ta ∧ (Exa Z h sa cST) ∧ (Fld Z h sa cST "value" "[B" (.ref ta)) ∧ (Fld Z h sa cST "coder" "B" (.int 0)) ∧ (Arv Z h ta kt .byte (0 : Int32) [] (.int (0 : Int32))) ∧ (Exa Z h sb cSB) ∧ (Fld Z h sb cAS "value" "[B" (.ref va)) ∧ (Fld Z h sb cAS "coder" "B" (.int 0)) ∧ (Fld Z h sb cAS "count" "I" (.int 0)) ∧ (Fld Z h sb cAS "maybeLatin1" "Z" (.int ml))
theorem ef_drain0 (m : MethodId) (x0 : Addr) : entryFrame m #[(.ref x0)] 2 = mkF m 0 #[.val (.ref x0), .unset] [] := by first | (simp [entryFrame, mkF, argsToLocals, Value.category]; done) | rfl
set_option maxRecDepth 65536 in
set_option maxHeartbeats 40000000 in
theorem rm_drain0 (l : Launch) (Z : State) (a0 : Array Value) (hw : ∀ d ∈ tables_1, d.before a0 Z = true) (ws : List Jvm.Cond) (jw : Addr) (sb : Addr) (va : Addr) (kv : ClassId) (u0 : Int32) (u1 : Int32) (ml : Int32) (G1 : Int32) (h0 : Heap) (n0 : Nat) (Z0 : n0 ≤ h0.size) (H0 : Exa Z h0 jw cJW) (H1 : Fld Z h0 jw cJW "text" "Ljava/lang/StringBuilder;" (.ref sb)) (H2 : Exa Z h0 sb cSB) (H3 : Fld Z h0 sb cAS "value" "[B" (.ref va)) (H4 : Fld Z h0 sb cAS "coder" "B" (.int 0)) (H5 : Fld Z h0 sb cAS "count" "I" (.int 0)) (H6 : Fld Z h0 sb cAS "maybeLatin1" "Z" (.int ml)) (H7 : Arv Z h0 va kv .byte (16 : Int32) [(.int u0), (.int u1)] (.int (0 : Int32))) (g_sb : n0 ≤ sb) (CS : Sta Z Z.heap "java/lang/String" "COMPACT_STRINGS" "Z" (.int G1)) (CSn : ¬ (G1 = (0 : Int32))) (O0 : Old Z n0 h0) :
    MetFree l mn3 (head1 (Jvm.Cond.code mn3 prog_33_method_10_code 2 (some (.object "java/lang/String")) :: ws) ({ frames := 6, cells := 2, slots := 4, locals := 91 } : Room)) (fun a U => a = #[(.ref jw)] ∧ Z.Warmed39 U.vm ∧ U.heap = h0) (fun _ _ _ _ _ => True) (fun _ U o U' => ∃ v L, o = .returned v ∧ Q_drain0 Z jw sb va kv u0 u1 ml G1 h0 n0 v U'.heap L ∧ FrameEnd U o U' L ({ frames := 6, cells := 2, slots := 4, locals := 91 } : Room).cells ({ frames := 6, cells := 2, slots := 4, locals := 91 } : Room).slots) := by
  refine MetFree.of_bodySF (plainFor_of_name pn_com_example_adjoinery_adjoinery_JsonWriter) hisR ?_
  intro p e s m args below meth c s₁ Bd hml0 hP hK
  obtain ⟨rfl, hZ, hh⟩ := hP
  have hx := Bd.exec
  have hby := Bd.bytes
  have hml : c.maxLocals = 2 := hml0
  have hown : s.vm.findClass "com/example/adjoinery/adjoinery/JsonWriter" = some m.cls := findClass_of_methodNamed Bd.named
  have hnm := (name_of_methodNamed Bd.named Bd.method).1
  have X0 : Stand p l e ({ frames := 6, cells := 2, slots := 4, locals := 91 } : Room) s m #[(.ref jw)] below meth c s₁ [] 0 0 := Stand.of_body Bd
  have e0 : s₁.heap = h0 := by rw [← hh, Bd.state]; rfl
  have N0 := Fr.nil n0
  refine go_st (fun t k => castTop (ef_drain0 m jw) k) ?_
  show Go _ _ _ _ (s₁.setTop (mkF m 0 #[rv jw, .unset] []))
  refine go_st (fun t k => XS.aloadN X0.here hx rfl (hb hby d3_0) rfl rfl k) ?_
  show Go _ _ _ _ (s₁.setTop (mkF m 1 #[rv jw, .unset] [(.ref jw)]))
  obtain ⟨T1, X1, e1, st1⟩ := getF X0 hx hZ hown (host := "") (Or.inl (w30 hw)) Via.refl e0 H1 (g := (mkF m 1 #[rv jw, .unset] [(.ref jw)])) rfl rfl (hb hby d3_1)
  refine go_st (fun t k => st1 t k) ?_
  show Go _ _ _ _ (T1.setTop (mkF m 4 #[rv jw, .unset] [(.ref sb)]))
  obtain ⟨cq2, kq2, q2a, q2b, q2c⟩ := isOf hZ e1 H2
  obtain ⟨_, _, ⟨T2, L2, kk2, nn2⟩, -, X2, ⟨Lc2, hQ2, lq2, yq2, zq2⟩, st2⟩ := X1.virtualBack hx (y := mn4) (z := mn4) hown (mvT hZ (w37 hw)) (mvT hZ (w38 hw)) (notFace_of_selects (args := #[]) (mvT hZ (w40 hw))) (mvT hZ (w40 hw)) (mvT hZ (w39 hw)) (by decide) (backOf (W := 0) (rm_tos0 l Z a0 hw [] sb va kv u0 u1 ml G1 h0 n0 (Nat.le_trans Z0 (Nat.le_refl _)) H2 H3 H4 H5 H6 H7 CS CSn O0) hZ (w41 hw) (w12 hw) (by decide) (by decide)) q2a q2c (g := (mkF m 4 #[rv jw, .unset] [(.ref sb)])) rfl (by rw [hml]; rfl) (Steps.refl _) (argsL := []) (rest := []) (lenOf pd_10 rfl) rfl (by show 2 * 0 + _ ≤ _; exact Nat.le_of_eq rfl) (hb hby d3_4) (fun _ _ => ⟨rfl, e1, (by decide : 0 + 2 ≤ _), (by decide : 0 + 4 ≤ _)⟩)
  dsimp only [Pt.U, Pt.locs, Pt.cells, Pt.slots] at X2 lq2 yq2 zq2 st2 hQ2
  subst lq2 yq2 zq2
  obtain ⟨h2, e2⟩ : ∃ z, T2.heap = z := ⟨_, rfl⟩
  rw [e2] at hQ2
  obtain ⟨sa_2, ta_2, kt_2, rfl, N2q, K2, gf2_0, lf2_0, gf2_1, lf2_1, p2_2, p2_3, p2_4, p2_5⟩ := hQ2
  have N2 := Fr.app N0 N2q
  refine go_tr st2 ?_
  refine go_st (fun t k => XS.astoreN X2.here hx rfl (hb hby d3_7) rfl rfl (l' := #[rv jw, rv sa_2]) rfl k) ?_
  refine go_st (fun t k => XS.aloadN X2.here hx rfl (hb hby d3_8) rfl rfl k) ?_
  show Go _ _ _ _ (T2.setTop (mkF m 9 #[rv jw, rv sa_2] [(.ref jw)]))
  have f3 : Fld Z h2 jw cJW "text" "Ljava/lang/StringBuilder;" (.ref sb) := (H1.keep K2 nin0)
  obtain ⟨T4, X4, e4, st4⟩ := getF X2 hx hZ hown (host := "") (Or.inl (w30 hw)) Via.refl e2 f3 (g := (mkF m 9 #[rv jw, rv sa_2] [(.ref jw)])) rfl rfl (hb hby d3_9)
  refine go_st (fun t k => st4 t k) ?_
  refine go_st (fun t k => XS.iconst X4.here hx rfl (hb hby d3_12) k) ?_
  show Go _ _ _ _ (T4.setTop (mkF m 13 #[rv jw, rv sa_2] [(.int 0), (.ref sb)]))
  have f5 : Exa Z h2 sb cSB := (H2.keep K2)
  have f6 : Fld Z h2 sb cAS "value" "[B" (.ref va) := (H3.keep K2 nin0)
  have f7 : Fld Z h2 sb cAS "coder" "B" (.int 0) := (H4.keep K2 nin0)
  have f8 : Fld Z h2 sb cAS "count" "I" (.int 0) := (H5.keep K2 nin0)
  have f9 : Fld Z h2 sb cAS "maybeLatin1" "Z" (.int ml) := (H6.keep K2 nin0)
  have f10 : Arv Z h2 va kv .byte (16 : Int32) [(.int u0), (.int u1)] (.int (0 : Int32)) := (H7.keep K2 nin0)
  have oe11 : Old Z n0 h2 := (Old.keep O0 K2 all0)
  obtain ⟨cq12, kq12, q12a, q12b, q12c⟩ := isOf hZ e4 f5
  obtain ⟨_, _, ⟨T12, L12, kk12, nn12⟩, -, X12, ⟨Lc12, hQ12, lq12, yq12, zq12⟩, st12⟩ := X4.virtualBack hx (y := mn15) (z := mn15) hown (mvT hZ (w95 hw)) (mvT hZ (w96 hw)) (nf_same (y := mn15) (y' := mn4) (a0 := #[]) rfl (mvT hZ (w39 hw)) (notFace_of_selects (args := #[]) (mvT hZ (w40 hw)))) (mvT hZ (w98 hw)) (mvT hZ (w97 hw)) (by decide) (backOf (W := 0) (rm_sbset0 l Z a0 hw [] sb va kv u0 u1 ml G1 h2 n0 (Nat.le_trans Z0 K2.1) f5 f6 f7 f8 f9 f10 g_sb CS CSn oe11) hZ (w99 hw) (w12 hw) (by decide) (by decide)) q12a q12c (g := (mkF m 13 #[rv jw, rv sa_2] [(.int 0), (.ref sb)])) rfl (by rw [hml]; rfl) (Steps.refl _) (argsL := [(.int 0)]) (rest := []) (lenOf pd_0 rfl) rfl (by show 2 * 0 + _ ≤ _; exact Nat.le_of_eq rfl) (hb hby d3_13) (fun _ _ => ⟨rfl, e4, (by decide : 2 + 0 ≤ _), (by decide : 4 + 0 ≤ _)⟩)
  dsimp only [Pt.U, Pt.locs, Pt.cells, Pt.slots] at X12 lq12 yq12 zq12 st12 hQ12
  subst lq12 yq12 zq12
  obtain ⟨h12, e12⟩ : ∃ z, T12.heap = z := ⟨_, rfl⟩
  rw [e12] at hQ12
  obtain ⟨rfl, N12q, K12, p12_0, p12_1, p12_2, p12_3, p12_4⟩ := hQ12
  have N12 := Fr.app N2 N12q
  refine go_tr st12 ?_
  refine go_st (fun t k => XS.aloadN X12.here hx rfl (hb hby d3_16) rfl rfl k) ?_
  show Go _ _ _ _ (T12.setTop (mkF m 17 #[rv jw, rv sa_2] [(.ref sa_2)]))
  have f13 : Exa Z h12 sa_2 cST := (p2_2.keep K12)
  have nq14 : sb ≠ sa_2 := Nat.ne_of_lt (Nat.lt_of_lt_of_le (Nat.lt_of_lt_of_le H2.lt (Nat.le_refl _)) lf2_0)
  have f15 : Fld Z h12 sa_2 cST "value" "[B" (.ref ta_2) := (p2_3.keep K12 (ninS (Ne.symm nq14) nin0))
  have f16 : Fld Z h12 sa_2 cST "coder" "B" (.int 0) := (p2_4.keep K12 (ninS (Ne.symm nq14) nin0))
  have nq17 : sb ≠ ta_2 := Nat.ne_of_lt (Nat.lt_of_lt_of_le (Nat.lt_of_lt_of_le H2.lt (Nat.le_refl _)) lf2_1)
  have f18 : Arv Z h12 ta_2 kt_2 .byte (0 : Int32) [] (.int (0 : Int32)) := (p2_5.keep K12 (ninS (Ne.symm nq17) nin0))
  have ke19 : Keep h0 h2 [sb] := (Keep.trans (Keep.refl h0 [sb]) K2 all0)
  have ke20 : Keep h0 h12 [sb] := (Keep.trans ke19 K12 (allS (Or.inl (List.mem_of_getElem? (i := 0) rfl)) all0))
  obtain ⟨fs, hr, hrun, hended, hW, hsame⟩ := X12.leave (v := some (.ref sa_2)) (fun h => by rw [Bd.returns] at h; cases h)
  refine ⟨_, _, ?_, hrun, hended, _, _, rfl, ?_, ⟨_, rfl⟩, hW, hsame.mono (by decide) (by decide)⟩
  · exact retOut X12 hx Bd.returns rfl (Or.inr (Or.inr (Or.inr (Or.inr ⟨rfl, rfl, rfl⟩)))) (hb hby d3_17) hr
  · show Q_drain0 _ _ _ _ _ _ _ _ _ _ _ _ T12.heap _
    rw [e12]
    exact ⟨sa_2, ta_2, kt_2, rfl, N12, ke20, gf2_0, lf2_0, gf2_1, lf2_1, f13, f15, f16, f18, p12_0, p12_1, p12_2, p12_3, p12_4⟩
def Q_sep0 (Z : State) (jw : Addr) (h0 : Heap) (n0 : Nat) (vR : Option Value) (h : Heap) (L : List Loc) : Prop := vR = none ∧ Fr n0 L ∧ h = h0
theorem ef_sep0 (m : MethodId) (x0 : Addr) : entryFrame m #[(.ref x0)] 1 = mkF m 0 #[.val (.ref x0)] [] := by first | (simp [entryFrame, mkF, argsToLocals, Value.category]; done) | rfl
set_option maxRecDepth 65536 in
set_option maxHeartbeats 40000000 in
theorem rm_sep0 (l : Launch) (Z : State) (a0 : Array Value) (hw : ∀ d ∈ tables_1, d.before a0 Z = true) (ws : List Jvm.Cond) (jw : Addr) (h0 : Heap) (n0 : Nat) (Z0 : n0 ≤ h0.size) (H0 : Fld Z h0 jw cJW "afterValue" "Z" (.int 0)) :
    MetFree l mn20 (head1 (Jvm.Cond.code mn20 prog_33_method_13_code 1 none :: ws) ({ frames := 0, cells := 0, slots := 0, locals := 0 } : Room)) (fun a U => a = #[(.ref jw)] ∧ Z.Warmed39 U.vm ∧ U.heap = h0) (fun _ _ _ _ _ => True) (fun _ U o U' => ∃ v L, o = .returned v ∧ Q_sep0 Z jw h0 n0 v U'.heap L ∧ FrameEnd U o U' L ({ frames := 0, cells := 0, slots := 0, locals := 0 } : Room).cells ({ frames := 0, cells := 0, slots := 0, locals := 0 } : Room).slots) := by
  refine MetFree.of_bodySF (plainFor_of_name pn_com_example_adjoinery_adjoinery_JsonWriter) hisR ?_
  intro p e s m args below meth c s₁ Bd hml0 hP hK
  obtain ⟨rfl, hZ, hh⟩ := hP
  have hx := Bd.exec
  have hby := Bd.bytes
  have hml : c.maxLocals = 1 := hml0
  have hown : s.vm.findClass "com/example/adjoinery/adjoinery/JsonWriter" = some m.cls := findClass_of_methodNamed Bd.named
  have hnm := (name_of_methodNamed Bd.named Bd.method).1
  have X0 : Stand p l e ({ frames := 0, cells := 0, slots := 0, locals := 0 } : Room) s m #[(.ref jw)] below meth c s₁ [] 0 0 := Stand.of_body Bd
  have e0 : s₁.heap = h0 := by rw [← hh, Bd.state]; rfl
  have N0 := Fr.nil n0
  refine go_st (fun t k => castTop (ef_sep0 m jw) k) ?_
  show Go _ _ _ _ (s₁.setTop (mkF m 0 #[rv jw] []))
  refine go_st (fun t k => XS.aloadN X0.here hx rfl (hb hby d20_0) rfl rfl k) ?_
  show Go _ _ _ _ (s₁.setTop (mkF m 1 #[rv jw] [(.ref jw)]))
  obtain ⟨T1, X1, e1, st1⟩ := getF X0 hx hZ hown (host := "") (Or.inl (w122 hw)) Via.refl e0 H0 (g := (mkF m 1 #[rv jw] [(.ref jw)])) rfl rfl (hb hby d20_1)
  refine go_st (fun t k => st1 t k) ?_
  show Go _ _ _ _ (T1.setTop (mkF m 4 #[rv jw] [(.int 0)]))
  refine go_st (fun t k => XS.ifYes X1.here hx rfl (pc0 := 4) (pc' := 17) rfl (hb hby d20_4) rfl ((if0 _ _).trans (teq ((by decide) : (0 : Int32) = (0 : Int32))).1) (by decide) (by decide) k) ?_
  show Go _ _ _ _ (T1.setTop (mkF m 17 #[rv jw] []))
  obtain ⟨fs, hr, hrun, hended, hW, hsame⟩ := X1.leave (v := none) (fun _ => rfl)
  refine ⟨_, _, ?_, hrun, hended, _, _, rfl, ?_, ⟨_, rfl⟩, hW, hsame.mono (by decide) (by decide)⟩
  · exact X1.returnOut hx Bd.returns (hb hby d20_17) hr
  · show Q_sep0 _ _ _ _ _ T1.heap _
    rw [e1]
    exact ⟨rfl, N0, rfl⟩
def Q_ens1 (Z : State) (sb : Addr) (va : Addr) (kv : ClassId) (u0 : Int32) (u1 : Int32) (h0 : Heap) (n0 : Nat) (vR : Option Value) (h : Heap) (L : List Loc) : Prop := vR = none ∧ Fr n0 L ∧ h = h0
theorem ef_ens1 (m : MethodId) (x0 : Addr) (x1 : Int32) : entryFrame m #[(.ref x0), (.int x1)] 3 = mkF m 0 #[.val (.ref x0), .val (.int x1), .unset] [] := by first | (simp [entryFrame, mkF, argsToLocals, Value.category]; done) | rfl
set_option maxRecDepth 65536 in
set_option maxHeartbeats 40000000 in
theorem rm_ens1 (l : Launch) (Z : State) (a0 : Array Value) (hw : ∀ d ∈ tables_1, d.before a0 Z = true) (ws : List Jvm.Cond) (sb : Addr) (va : Addr) (kv : ClassId) (u0 : Int32) (u1 : Int32) (h0 : Heap) (n0 : Nat) (Z0 : n0 ≤ h0.size) (H0 : Fld Z h0 sb cAS "value" "[B" (.ref va)) (H1 : Fld Z h0 sb cAS "coder" "B" (.int 0)) (H2 : Arv Z h0 va kv .byte (16 : Int32) [(.int u0), (.int u1)] (.int (0 : Int32))) :
    MetFree l mn17 (head1 (Jvm.Cond.code mn17 jdk_68_method_9_code 3 none :: ws) ({ frames := 0, cells := 0, slots := 0, locals := 0 } : Room)) (fun a U => a = #[(.ref sb), (.int 1)] ∧ Z.Warmed39 U.vm ∧ U.heap = h0) (fun _ _ _ _ _ => True) (fun _ U o U' => ∃ v L, o = .returned v ∧ Q_ens1 Z sb va kv u0 u1 h0 n0 v U'.heap L ∧ FrameEnd U o U' L ({ frames := 0, cells := 0, slots := 0, locals := 0 } : Room).cells ({ frames := 0, cells := 0, slots := 0, locals := 0 } : Room).slots) := by
  refine MetFree.of_bodySF (plainFor_of_name pn_java_lang_AbstractStringBuilder) hisR ?_
  intro p e s m args below meth c s₁ Bd hml0 hP hK
  obtain ⟨rfl, hZ, hh⟩ := hP
  have hx := Bd.exec
  have hby := Bd.bytes
  have hml : c.maxLocals = 3 := hml0
  have hown : s.vm.findClass "java/lang/AbstractStringBuilder" = some m.cls := findClass_of_methodNamed Bd.named
  have hnm := (name_of_methodNamed Bd.named Bd.method).1
  have X0 : Stand p l e ({ frames := 0, cells := 0, slots := 0, locals := 0 } : Room) s m #[(.ref sb), (.int 1)] below meth c s₁ [] 0 0 := Stand.of_body Bd
  have e0 : s₁.heap = h0 := by rw [← hh, Bd.state]; rfl
  have N0 := Fr.nil n0
  refine go_st (fun t k => castTop (ef_ens1 m sb (1 : Int32)) k) ?_
  show Go _ _ _ _ (s₁.setTop (mkF m 0 #[rv sb, iv 1, .unset] []))
  refine go_st (fun t k => XS.aloadN X0.here hx rfl (hb hby d17_0) rfl rfl k) ?_
  show Go _ _ _ _ (s₁.setTop (mkF m 1 #[rv sb, iv 1, .unset] [(.ref sb)]))
  obtain ⟨T1, X1, e1, st1⟩ := getF X0 hx hZ hown (host := "") (Or.inl (w26 hw)) Via.refl e0 H0 (g := (mkF m 1 #[rv sb, iv 1, .unset] [(.ref sb)])) rfl rfl (hb hby d17_1)
  refine go_st (fun t k => st1 t k) ?_
  show Go _ _ _ _ (T1.setTop (mkF m 4 #[rv sb, iv 1, .unset] [(.ref va)]))
  obtain ⟨zc2, zA2, zq2, zS2, zN2, zH2, zG2⟩ := id H2
  refine go_st (fun t k => X1.arraylength hx (by rw [e1]; exact zA2.1) (State.isArrayOf_alike hZ.alike zA2.2.1) (g := (mkF m 4 #[rv sb, iv 1, .unset] [(.ref va)])) rfl rfl (hb hby d17_4) t k) ?_
  rw [len_of zS2 zN2]
  refine go_st (fun t k => XS.aloadN X1.here hx rfl (hb hby d17_5) rfl rfl k) ?_
  show Go _ _ _ _ (T1.setTop (mkF m 6 #[rv sb, iv 1, .unset] [(.ref sb), (.int 16)]))
  obtain ⟨T3, X3, e3, st3⟩ := getF X1 hx hZ hown (host := "") (Or.inl (w28 hw)) Via.refl e1 H1 (g := (mkF m 6 #[rv sb, iv 1, .unset] [(.ref sb), (.int 16)])) rfl rfl (hb hby d17_6)
  refine go_st (fun t k => st3 t k) ?_
  show Go _ _ _ _ (T3.setTop (mkF m 9 #[rv sb, iv 1, .unset] [(.int 0), (.int 16)]))
  refine go_st (fun t k => XS.ishr X3.here hx rfl (hb hby d17_9) rfl k) ?_
  rw [show ((16 : Int32) >>> ((0 : Int32) &&& 31)) = (16 : Int32) from by decide]
  show Go _ _ _ _ (T3.setTop (mkF m 10 #[rv sb, iv 1, .unset] [(.int 16)]))
  refine go_st (fun t k => XS.istoreN X3.here hx rfl (hb hby d17_10) rfl (l' := #[rv sb, iv 1, iv 16]) rfl k) ?_
  refine go_st (fun t k => XS.iloadN X3.here hx rfl (hb hby d17_11) rfl k) ?_
  refine go_st (fun t k => XS.iloadN X3.here hx rfl (hb hby d17_12) rfl k) ?_
  show Go _ _ _ _ (T3.setTop (mkF m 13 #[rv sb, iv 1, iv 16] [(.int 16), (.int 1)]))
  refine go_st (fun t k => XS.isub X3.here hx rfl (hb hby d17_13) rfl k) ?_
  rw [show ((1 : Int32) - (16 : Int32)) = (-15 : Int32) from by decide]
  show Go _ _ _ _ (T3.setTop (mkF m 14 #[rv sb, iv 1, iv 16] [(.int (-15))]))
  refine go_st (fun t k => XS.ifYes X3.here hx rfl (pc0 := 14) (pc' := 38) rfl (hb hby d17_14) rfl ((if0 _ _).trans (flt ((by decide) : ¬ ((0 : Int32) < (-15 : Int32)))).2.2.2) (by decide) (by decide) k) ?_
  show Go _ _ _ _ (T3.setTop (mkF m 38 #[rv sb, iv 1, iv 16] []))
  obtain ⟨fs, hr, hrun, hended, hW, hsame⟩ := X3.leave (v := none) (fun _ => rfl)
  refine ⟨_, _, ?_, hrun, hended, _, _, rfl, ?_, ⟨_, rfl⟩, hW, hsame.mono (by decide) (by decide)⟩
  · exact X3.returnOut hx Bd.returns (hb hby d17_38) hr
  · show Q_ens1 _ _ _ _ _ _ _ _ _ T3.heap _
    rw [e3]
    exact ⟨rfl, N0, rfl⟩
def Q_can (Z : State) (ch : Int32) (h0 : Heap) (n0 : Nat) (vR : Option Value) (h : Heap) (L : List Loc) : Prop := vR = some (.int 1) ∧ Fr n0 L ∧ h = h0
theorem ef_can (m : MethodId) (x0 : Int32) : entryFrame m #[(.int x0)] 1 = mkF m 0 #[.val (.int x0)] [] := by first | (simp [entryFrame, mkF, argsToLocals, Value.category]; done) | rfl
set_option maxRecDepth 65536 in
set_option maxHeartbeats 40000000 in
theorem rm_can (l : Launch) (Z : State) (a0 : Array Value) (hw : ∀ d ∈ tables_1, d.before a0 Z = true) (ws : List Jvm.Cond) (ch : Int32) (h0 : Heap) (n0 : Nat) (Z0 : n0 ≤ h0.size) (hch : ¬ ((255 : Int32) < ch)) :
    MetFree l mn23 (head1 (Jvm.Cond.code mn23 jdk_43_method_3_code 1 (some .boolean) :: ws) ({ frames := 0, cells := 0, slots := 0, locals := 0 } : Room)) (fun a U => a = #[(.int ch)] ∧ Z.Warmed39 U.vm ∧ U.heap = h0) (fun _ _ _ _ _ => True) (fun _ U o U' => ∃ v L, o = .returned v ∧ Q_can Z ch h0 n0 v U'.heap L ∧ FrameEnd U o U' L ({ frames := 0, cells := 0, slots := 0, locals := 0 } : Room).cells ({ frames := 0, cells := 0, slots := 0, locals := 0 } : Room).slots) := by
  refine MetFree.of_bodySF (plainFor_of_name pn_java_lang_StringLatin1) hisR ?_
  intro p e s m args below meth c s₁ Bd hml0 hP hK
  obtain ⟨rfl, hZ, hh⟩ := hP
  have hx := Bd.exec
  have hby := Bd.bytes
  have hml : c.maxLocals = 1 := hml0
  have hown : s.vm.findClass "java/lang/StringLatin1" = some m.cls := findClass_of_methodNamed Bd.named
  have hnm := (name_of_methodNamed Bd.named Bd.method).1
  have X0 : Stand p l e ({ frames := 0, cells := 0, slots := 0, locals := 0 } : Room) s m #[(.int ch)] below meth c s₁ [] 0 0 := Stand.of_body Bd
  have e0 : s₁.heap = h0 := by rw [← hh, Bd.state]; rfl
  have N0 := Fr.nil n0
  refine go_st (fun t k => castTop (ef_can m ch) k) ?_
  show Go _ _ _ _ (s₁.setTop (mkF m 0 #[iv ch] []))
  refine go_st (fun t k => XS.iloadN X0.here hx rfl (hb hby d23_0) rfl k) ?_
  refine go_st (fun t k => XS.sipush X0.here hx rfl (hb hby d23_1) k) ?_
  show Go _ _ _ _ (s₁.setTop (mkF m 4 #[iv ch] [(.int 255), (.int ch)]))
  refine go_st (fun t k => XS.icmpNo X0.here hx rfl (hb hby d23_4) rfl (flt (hch : ¬ ((255 : Int32) < ch))).2.2.1 k) ?_
  show Go _ _ _ _ (s₁.setTop (mkF m 7 #[iv ch] []))
  refine go_st (fun t k => XS.iconst X0.here hx rfl (hb hby d23_7) k) ?_
  refine go_st (fun t k => XS.goto X0.here hx rfl (pc0 := 8) (pc' := 12) rfl (hb hby d23_8) (by decide) (by decide) k) ?_
  show Go _ _ _ _ (s₁.setTop (mkF m 12 #[iv ch] [(.int 1)]))
  obtain ⟨fs, hr, hrun, hended, hW, hsame⟩ := X0.leave (v := some (.int 1)) (fun h => by rw [Bd.returns] at h; cases h)
  refine ⟨_, _, ?_, hrun, hended, _, _, rfl, ?_, ⟨_, rfl⟩, hW, hsame.mono (by decide) (by decide)⟩
  · exact retN X0 hx (t := .boolean) Bd.returns (by simp) (hb hby d23_12) hr
  · show Q_can _ _ _ _ _ s₁.heap _
    rw [e0]
    exact ⟨rfl, N0, rfl⟩
def Q_asbapc0 (Z : State) (sb : Addr) (va : Addr) (kv : ClassId) (u0 : Int32) (u1 : Int32) (ml : Int32) (ch : Int32) (G1 : Int32) (h0 : Heap) (n0 : Nat) (vR : Option Value) (h : Heap) (L : List Loc) : Prop := vR = some (.ref sb) ∧ Fr n0 L ∧ Keep h0 h [sb, va] ∧ (Exa Z h sb cSB) ∧ (Fld Z h sb cAS "value" "[B" (.ref va)) ∧ (Fld Z h sb cAS "coder" "B" (.int 0)) ∧ (Fld Z h sb cAS "count" "I" (.int 1)) ∧ (Fld Z h sb cAS "maybeLatin1" "Z" (.int ml)) ∧ (Arv Z h va kv .byte (16 : Int32) [(.int (nar .byte (ch.toInt8.toInt32))), (.int u1)] (.int (0 : Int32)))
theorem ef_asbapc0 (m : MethodId) (x0 : Addr) (x1 : Int32) : entryFrame m #[(.ref x0), (.int x1)] 2 = mkF m 0 #[.val (.ref x0), .val (.int x1)] [] := by first | (simp [entryFrame, mkF, argsToLocals, Value.category]; done) | rfl
set_option maxRecDepth 65536 in
set_option maxHeartbeats 40000000 in
theorem rm_asbapc0 (l : Launch) (Z : State) (a0 : Array Value) (hw : ∀ d ∈ tables_1, d.before a0 Z = true) (ws : List Jvm.Cond) (sb : Addr) (va : Addr) (kv : ClassId) (u0 : Int32) (u1 : Int32) (ml : Int32) (ch : Int32) (G1 : Int32) (h0 : Heap) (n0 : Nat) (Z0 : n0 ≤ h0.size) (H0 : Exa Z h0 sb cSB) (H1 : Fld Z h0 sb cAS "value" "[B" (.ref va)) (H2 : Fld Z h0 sb cAS "coder" "B" (.int 0)) (H3 : Fld Z h0 sb cAS "count" "I" (.int 0)) (H4 : Fld Z h0 sb cAS "maybeLatin1" "Z" (.int ml)) (H5 : Arv Z h0 va kv .byte (16 : Int32) [(.int u0), (.int u1)] (.int (0 : Int32))) (g_sb : n0 ≤ sb) (g_va : n0 ≤ va) (hch : ¬ ((255 : Int32) < ch)) (CS : Sta Z Z.heap "java/lang/String" "COMPACT_STRINGS" "Z" (.int G1)) (CSn : ¬ (G1 = (0 : Int32))) (O0 : Old Z n0 h0) :
    MetFree l mn22 (head1 (Jvm.Cond.code mn22 jdk_68_method_31_code 2 (some (.object "java/lang/AbstractStringBuilder")) :: ws) ({ frames := 1, cells := 0, slots := 0, locals := 14 } : Room)) (fun a U => a = #[(.ref sb), (.int ch)] ∧ Z.Warmed39 U.vm ∧ U.heap = h0) (fun _ _ _ _ _ => True) (fun _ U o U' => ∃ v L, o = .returned v ∧ Q_asbapc0 Z sb va kv u0 u1 ml ch G1 h0 n0 v U'.heap L ∧ FrameEnd U o U' L ({ frames := 1, cells := 0, slots := 0, locals := 14 } : Room).cells ({ frames := 1, cells := 0, slots := 0, locals := 14 } : Room).slots) := by
  refine MetFree.of_bodySF (plainFor_of_name pn_java_lang_AbstractStringBuilder) hisR ?_
  intro p e s m args below meth c s₁ Bd hml0 hP hK
  obtain ⟨rfl, hZ, hh⟩ := hP
  have hx := Bd.exec
  have hby := Bd.bytes
  have hml : c.maxLocals = 2 := hml0
  have hown : s.vm.findClass "java/lang/AbstractStringBuilder" = some m.cls := findClass_of_methodNamed Bd.named
  have hnm := (name_of_methodNamed Bd.named Bd.method).1
  have X0 : Stand p l e ({ frames := 1, cells := 0, slots := 0, locals := 14 } : Room) s m #[(.ref sb), (.int ch)] below meth c s₁ [] 0 0 := Stand.of_body Bd
  have e0 : s₁.heap = h0 := by rw [← hh, Bd.state]; rfl
  have N0 := Fr.nil n0
  refine go_st (fun t k => castTop (ef_asbapc0 m sb ch) k) ?_
  show Go _ _ _ _ (s₁.setTop (mkF m 0 #[rv sb, iv ch] []))
  refine go_st (fun t k => XS.aloadN X0.here hx rfl (hb hby d22_0) rfl rfl k) ?_
  refine go_st (fun t k => XS.aloadN X0.here hx rfl (hb hby d22_1) rfl rfl k) ?_
  show Go _ _ _ _ (s₁.setTop (mkF m 2 #[rv sb, iv ch] [(.ref sb), (.ref sb)]))
  obtain ⟨T1, X1, e1, st1⟩ := getF X0 hx hZ hown (host := "") (Or.inl (w66 hw)) Via.refl e0 H3 (g := (mkF m 2 #[rv sb, iv ch] [(.ref sb), (.ref sb)])) rfl rfl (hb hby d22_2)
  refine go_st (fun t k => st1 t k) ?_
  refine go_st (fun t k => XS.iconst X1.here hx rfl (hb hby d22_5) k) ?_
  show Go _ _ _ _ (T1.setTop (mkF m 6 #[rv sb, iv ch] [(.int 1), (.int 0), (.ref sb)]))
  refine go_st (fun t k => XS.iadd X1.here hx rfl (hb hby d22_6) rfl k) ?_
  rw [show ((0 : Int32) + (1 : Int32)) = (1 : Int32) from by decide]
  show Go _ _ _ _ (T1.setTop (mkF m 7 #[rv sb, iv ch] [(.int 1), (.ref sb)]))
  obtain ⟨cq2, q2, q2'⟩ := H0.cell
  obtain ⟨_, _, ⟨T2, L2, kk2, nn2⟩, -, X2, ⟨Lc2, hQ2, lq2, yq2, zq2⟩, st2⟩ := X1.privateBack hx (y := mn17) hown (mvT hZ (w104 hw)) (mvT hZ (w105 hw)) (mvT hZ (sel_priv (w106 hw) (w105 hw) (nf_same (y := mn17) (y' := mn7) rfl (w54 hw) (notFace_of_selects (w55 hw))) (by decide))) (Cond.privateMethod_at (mvP hZ (w106 hw) (args := #[]))) (mvT hZ (w108 hw)) (by decide) (backOf (W := 0) (rm_ens1 l Z a0 hw [] sb va kv u0 u1 h0 n0 (Nat.le_trans Z0 (Nat.le_refl _)) H1 H2 H5) hZ (w108 hw) (w20 hw) (by decide) (by decide)) (g := (mkF m 7 #[rv sb, iv ch] [(.int 1), (.ref sb)])) rfl (by rw [hml]; rfl) (Steps.refl _) (a := sb) (by rw [e1]; exact q2) q2' (argsL := [(.int 1)]) (rest := []) (lenOf pd_0 rfl) rfl (by show 2 * 0 + _ ≤ _; exact Nat.le_of_eq rfl) (hb hby d22_7) (fun _ _ => ⟨rfl, e1, (by decide : 0 + 0 ≤ _), (by decide : 0 + 0 ≤ _)⟩)
  dsimp only [Pt.U, Pt.locs, Pt.cells, Pt.slots] at X2 lq2 yq2 zq2 st2 hQ2
  subst lq2 yq2 zq2
  obtain ⟨h2, e2⟩ : ∃ z, T2.heap = z := ⟨_, rfl⟩
  rw [e2] at hQ2
  obtain ⟨rfl, N2q, he2⟩ := hQ2
  have N2 := Fr.app N0 N2q
  rw [he2] at e2
  refine go_tr st2 ?_
  refine go_st (fun t k => XS.aloadN X2.here hx rfl (hb hby d22_10) rfl rfl k) ?_
  show Go _ _ _ _ (T2.setTop (mkF m 11 #[rv sb, iv ch] [(.ref sb)]))
  obtain ⟨cq3, kq3, q3a, q3b, q3c⟩ := isOf hZ e2 H0
  obtain ⟨_, _, ⟨T3, L3, kk3, nn3⟩, -, X3, ⟨Lc3, hQ3, lq3, yq3, zq3⟩, st3⟩ := X2.virtualBack hx (y := mn10) (z := mn10) hown (mvT hZ (w133 hw)) (mvT hZ (w69 hw)) (nf_same (y := mn10) (y' := mn7) (a0 := #[]) rfl (mvT hZ (w54 hw)) (notFace_of_selects (args := #[]) (mvT hZ (w55 hw)))) (mvT hZ (w71 hw)) (mvT hZ (w70 hw)) (by decide) (backOf (W := 0) (rm_isl l Z a0 hw [] sb G1 h0 n0 (Nat.le_trans Z0 (Nat.le_refl _)) H2 CS CSn O0) hZ (w72 hw) (w20 hw) (by decide) (by decide)) q3a q3c (g := (mkF m 11 #[rv sb, iv ch] [(.ref sb)])) rfl (by rw [hml]; rfl) (Steps.refl _) (argsL := []) (rest := []) (lenOf pd_4 rfl) rfl (by show 2 * 0 + _ ≤ _; exact Nat.le_of_eq rfl) (hb hby d22_11) (fun _ _ => ⟨rfl, e2, (by decide : 0 + 0 ≤ _), (by decide : 0 + 0 ≤ _)⟩)
  dsimp only [Pt.U, Pt.locs, Pt.cells, Pt.slots] at X3 lq3 yq3 zq3 st3 hQ3
  subst lq3 yq3 zq3
  obtain ⟨h3, e3⟩ : ∃ z, T3.heap = z := ⟨_, rfl⟩
  rw [e3] at hQ3
  obtain ⟨rfl, N3q, he3⟩ := hQ3
  have N3 := Fr.app N2 N3q
  rw [he3] at e3
  refine go_tr st3 ?_
  show Go _ _ _ _ (T3.setTop (mkF m 14 #[rv sb, iv ch] [(.int 1)]))
  refine go_st (fun t k => XS.ifNo X3.here hx rfl (hb hby d22_14) rfl ((if0 _ _).trans (feq ((by decide) : ¬ ((1 : Int32) = (0 : Int32)))).1) k) ?_
  show Go _ _ _ _ (T3.setTop (mkF m 17 #[rv sb, iv ch] []))
  refine go_st (fun t k => XS.iloadN X3.here hx rfl (hb hby d22_17) rfl k) ?_
  show Go _ _ _ _ (T3.setTop (mkF m 18 #[rv sb, iv ch] [(.int ch)]))
  obtain ⟨_, _, ⟨T4, L4, kk4, nn4⟩, -, X4, ⟨Lc4, hQ4, lq4, yq4, zq4⟩, st4⟩ := Jvm.LawKit.callS X3 hx (y := mn23) hown (mvT hZ (w134 hw)) (mvT hZ (w135 hw)) (mvT hZ (w136 hw)) (mvT hZ (w137 hw)) (by decide) (backOf (W := 0) (rm_can l Z a0 hw [] ch h0 n0 (Nat.le_trans Z0 (Nat.le_refl _)) hch) hZ (w137 hw) (w136 hw) (by decide) (by decide)) (g := (mkF m 18 #[rv sb, iv ch] [(.int ch)])) rfl (by rw [hml]; rfl) (argsL := [(.int ch)]) (rest := []) (lenOf pd_11 rfl) rfl (by show 2 * 0 + _ ≤ _; exact Nat.le_of_eq rfl) (hb hby d22_18) (fun _ _ => ⟨rfl, e3, (by decide : 0 + 0 ≤ _), (by decide : 0 + 0 ≤ _)⟩)
  dsimp only [Pt.U, Pt.locs, Pt.cells, Pt.slots] at X4 lq4 yq4 zq4 st4 hQ4
  subst lq4 yq4 zq4
  obtain ⟨h4, e4⟩ : ∃ z, T4.heap = z := ⟨_, rfl⟩
  rw [e4] at hQ4
  obtain ⟨rfl, N4q, he4⟩ := hQ4
  have N4 := Fr.app N3 N4q
  rw [he4] at e4
  refine go_st st4 ?_
  show Go _ _ _ _ (T4.setTop (mkF m 21 #[rv sb, iv ch] [(.int 1)]))
  refine go_st (fun t k => XS.ifNo X4.here hx rfl (hb hby d22_21) rfl ((if0 _ _).trans (feq ((by decide) : ¬ ((1 : Int32) = (0 : Int32)))).1) k) ?_
  show Go _ _ _ _ (T4.setTop (mkF m 24 #[rv sb, iv ch] []))
  refine go_st (fun t k => XS.aloadN X4.here hx rfl (hb hby d22_24) rfl rfl k) ?_
  show Go _ _ _ _ (T4.setTop (mkF m 25 #[rv sb, iv ch] [(.ref sb)]))
  obtain ⟨T5, X5, e5, st5⟩ := getF X4 hx hZ hown (host := "") (Or.inl (w26 hw)) Via.refl e4 H1 (g := (mkF m 25 #[rv sb, iv ch] [(.ref sb)])) rfl rfl (hb hby d22_25)
  refine go_st (fun t k => st5 t k) ?_
  refine go_st (fun t k => XS.aloadN X5.here hx rfl (hb hby d22_28) rfl rfl k) ?_
  refine go_st (fun t k => XS.dup X5.here hx rfl (hb hby d22_29) rfl rfl k) ?_
  show Go _ _ _ _ (T5.setTop (mkF m 30 #[rv sb, iv ch] [(.ref sb), (.ref sb), (.ref va)]))
  obtain ⟨T6, X6, e6, st6⟩ := getF X5 hx hZ hown (host := "") (Or.inl (w66 hw)) Via.refl e5 H3 (g := (mkF m 30 #[rv sb, iv ch] [(.ref sb), (.ref sb), (.ref va)])) rfl rfl (hb hby d22_30)
  refine go_st (fun t k => st6 t k) ?_
  show Go _ _ _ _ (T6.setTop (mkF m 33 #[rv sb, iv ch] [(.int 0), (.ref sb), (.ref va)]))
  refine go_st (fun t k => XS.dupX1 X6.here hx rfl (hb hby d22_33) rfl rfl rfl k) ?_
  refine go_st (fun t k => XS.iconst X6.here hx rfl (hb hby d22_34) k) ?_
  show Go _ _ _ _ (T6.setTop (mkF m 35 #[rv sb, iv ch] [(.int 1), (.int 0), (.ref sb), (.int 0), (.ref va)]))
  refine go_st (fun t k => XS.iadd X6.here hx rfl (hb hby d22_35) rfl k) ?_
  rw [show ((0 : Int32) + (1 : Int32)) = (1 : Int32) from by decide]
  show Go _ _ _ _ (T6.setTop (mkF m 36 #[rv sb, iv ch] [(.int 1), (.ref sb), (.int 0), (.ref va)]))
  obtain ⟨T7, h7, X7, e7, W7, st7⟩ := putF X6 hx hZ hown (host := "") (Or.inl (w66 hw)) Via.refl e6 H3 H0 (Or.inl (w67 hw)) (w11 hw) (ty := .int) (by decide) rfl rfl (g := (mkF m 36 #[rv sb, iv ch] [(.int 1), (.ref sb), (.int 0), (.ref va)])) rfl rfl (hb hby d22_36)
  have N7 := Fr.snoc X7 N4 g_sb
  have f8 : Fld Z h7 sb cAS "count" "I" (.int 1) := H3.same W7
  refine go_st (fun t k => st7 t k) ?_
  refine go_st (fun t k => XS.iloadN X7.here hx rfl (hb hby d22_39) rfl k) ?_
  show Go _ _ _ _ (T7.setTop (mkF m 40 #[rv sb, iv ch] [(.int ch), (.int 0), (.ref va)]))
  refine go_st (fun t k => XS.i2b X7.here hx rfl (hb hby d22_40) rfl k) ?_
  show Go _ _ _ _ (T7.setTop (mkF m 41 #[rv sb, iv ch] [(.int ((ch).toInt8.toInt32)), (.int 0), (.ref va)]))
  have nq9 : va ≠ sb := Ne.symm (Exa.neArv H0 H5 (w11 hw))
  have f10 : Arv Z h7 va kv .byte (16 : Int32) [(.int u0), (.int u1)] (.int (0 : Int32)) := (H5.other W7 nq9)
  obtain ⟨zc11, zA11, zq11, zS11, zN11, zH11, zG11⟩ := id f10
  have hin11 : ¬ ((0 : Int32) < 0 ∨ zc11.slots.size ≤ ((0 : Int32)).toNatClampNeg) := inb_of zS11 ⟨by decide, by decide⟩
  obtain ⟨T11, h11, X11, e11, W11, st11⟩ := stB X7 hx hZ e7 zA11 (j := (0 : Int32)) hin11 (g := (mkF m 41 #[rv sb, iv ch] [(.int ((ch).toInt8.toInt32)), (.int 0), (.ref va)])) rfl rfl (hb hby d22_41)
  have N11 := Fr.snoc X11 N7 g_va
  have f12 : Arv Z h11 va kv .byte (16 : Int32) [(.int (nar .byte ((ch).toInt8.toInt32))), (.int u1)] (.int (0 : Int32)) := Arv.set zA11 zq11 zS11 zN11 zH11 zG11 (fits_nar_byte _) W11 0 rfl (Nat.le_of_ble_eq_true rfl)
  refine go_st (fun t k => st11 t k) ?_
  refine go_st (fun t k => XS.goto X11.here hx rfl (pc0 := 42) (pc' := 75) rfl (hb hby d22_42) (by decide) (by decide) k) ?_
  show Go _ _ _ _ (T11.setTop (mkF m 75 #[rv sb, iv ch] []))
  refine go_st (fun t k => XS.aloadN X11.here hx rfl (hb hby d22_75) rfl rfl k) ?_
  show Go _ _ _ _ (T11.setTop (mkF m 76 #[rv sb, iv ch] [(.ref sb)]))
  have f13 : Exa Z h11 sb cSB := ((H0.wr W7).wr W11)
  have f14 : Fld Z h11 sb cAS "value" "[B" (.ref va) := ((H1.other W7 (Or.inr (slot_ne (Or.inl (w27 hw)) (Or.inl (w67 hw)) (by decide) (t := (.array .byte)) (t' := .int) (by decide) (by decide)))).other W11 (Or.inl (Ne.symm nq9)))
  have f15 : Fld Z h11 sb cAS "coder" "B" (.int 0) := ((H2.other W7 (Or.inr (slot_ne (Or.inl (w29 hw)) (Or.inl (w67 hw)) (by decide) (t := .byte) (t' := .int) (by decide) (by decide)))).other W11 (Or.inl (Ne.symm nq9)))
  have f16 : Fld Z h11 sb cAS "count" "I" (.int 1) := (f8.other W11 (Or.inl (Ne.symm nq9)))
  have f17 : Fld Z h11 sb cAS "maybeLatin1" "Z" (.int ml) := ((H4.other W7 (Or.inr (slot_ne (Or.inl (w139 hw)) (Or.inl (w67 hw)) (by decide) (t := .boolean) (t' := .int) (by decide) (by decide)))).other W11 (Or.inl (Ne.symm nq9)))
  have ke18 : Keep h0 h7 [sb, va] := (Keep.wr (Keep.refl h0 [sb, va]) W7 (Or.inl (List.mem_of_getElem? (i := 0) rfl)))
  have ke19 : Keep h0 h11 [sb, va] := (Keep.wr ke18 W11 (Or.inl (List.mem_of_getElem? (i := 1) rfl)))
  obtain ⟨fs, hr, hrun, hended, hW, hsame⟩ := X11.leave (v := some (.ref sb)) (fun h => by rw [Bd.returns] at h; cases h)
  refine ⟨_, _, ?_, hrun, hended, _, _, rfl, ?_, ⟨_, rfl⟩, hW, hsame.mono (by decide) (by decide)⟩
  · exact retOut X11 hx Bd.returns rfl (Or.inr (Or.inr (Or.inr (Or.inr ⟨rfl, rfl, rfl⟩)))) (hb hby d22_76) hr
  · show Q_asbapc0 _ _ _ _ _ _ _ _ _ _ _ _ T11.heap _
    rw [e11]
    exact ⟨rfl, N11, ke19, f13, f14, f15, f16, f17, f12⟩
def Q_sbapc0 (Z : State) (sb : Addr) (va : Addr) (kv : ClassId) (u0 : Int32) (u1 : Int32) (ml : Int32) (ch : Int32) (G1 : Int32) (h0 : Heap) (n0 : Nat) (vR : Option Value) (h : Heap) (L : List Loc) : Prop := vR = some (.ref sb) ∧ Fr n0 L ∧ Keep h0 h [sb, va] ∧ (Exa Z h sb cSB) ∧ (Fld Z h sb cAS "value" "[B" (.ref va)) ∧ (Fld Z h sb cAS "coder" "B" (.int 0)) ∧ (Fld Z h sb cAS "count" "I" (.int 1)) ∧ (Fld Z h sb cAS "maybeLatin1" "Z" (.int ml)) ∧ (Arv Z h va kv .byte (16 : Int32) [(.int (nar .byte (ch.toInt8.toInt32))), (.int u1)] (.int (0 : Int32)))
theorem ef_sbapc0 (m : MethodId) (x0 : Addr) (x1 : Int32) : entryFrame m #[(.ref x0), (.int x1)] 2 = mkF m 0 #[.val (.ref x0), .val (.int x1)] [] := by first | (simp [entryFrame, mkF, argsToLocals, Value.category]; done) | rfl
set_option maxRecDepth 65536 in
set_option maxHeartbeats 40000000 in
theorem rm_sbapc0 (l : Launch) (Z : State) (a0 : Array Value) (hw : ∀ d ∈ tables_1, d.before a0 Z = true) (ws : List Jvm.Cond) (sb : Addr) (va : Addr) (kv : ClassId) (u0 : Int32) (u1 : Int32) (ml : Int32) (ch : Int32) (G1 : Int32) (h0 : Heap) (n0 : Nat) (Z0 : n0 ≤ h0.size) (H0 : Exa Z h0 sb cSB) (H1 : Fld Z h0 sb cAS "value" "[B" (.ref va)) (H2 : Fld Z h0 sb cAS "coder" "B" (.int 0)) (H3 : Fld Z h0 sb cAS "count" "I" (.int 0)) (H4 : Fld Z h0 sb cAS "maybeLatin1" "Z" (.int ml)) (H5 : Arv Z h0 va kv .byte (16 : Int32) [(.int u0), (.int u1)] (.int (0 : Int32))) (g_sb : n0 ≤ sb) (g_va : n0 ≤ va) (hch : ¬ ((255 : Int32) < ch)) (CS : Sta Z Z.heap "java/lang/String" "COMPACT_STRINGS" "Z" (.int G1)) (CSn : ¬ (G1 = (0 : Int32))) (O0 : Old Z n0 h0) :
    MetFree l mn21 (head1 (Jvm.Cond.code mn21 jdk_67_method_14_code 2 (some (.object "java/lang/StringBuilder")) :: ws) ({ frames := 2, cells := 0, slots := 0, locals := 27 } : Room)) (fun a U => a = #[(.ref sb), (.int ch)] ∧ Z.Warmed39 U.vm ∧ U.heap = h0) (fun _ _ _ _ _ => True) (fun _ U o U' => ∃ v L, o = .returned v ∧ Q_sbapc0 Z sb va kv u0 u1 ml ch G1 h0 n0 v U'.heap L ∧ FrameEnd U o U' L ({ frames := 2, cells := 0, slots := 0, locals := 27 } : Room).cells ({ frames := 2, cells := 0, slots := 0, locals := 27 } : Room).slots) := by
  refine MetFree.of_bodySF (plainFor_of_name pn_java_lang_StringBuilder) hisR ?_
  intro p e s m args below meth c s₁ Bd hml0 hP hK
  obtain ⟨rfl, hZ, hh⟩ := hP
  have hx := Bd.exec
  have hby := Bd.bytes
  have hml : c.maxLocals = 2 := hml0
  have hown : s.vm.findClass "java/lang/StringBuilder" = some m.cls := findClass_of_methodNamed Bd.named
  have hnm := (name_of_methodNamed Bd.named Bd.method).1
  have X0 : Stand p l e ({ frames := 2, cells := 0, slots := 0, locals := 27 } : Room) s m #[(.ref sb), (.int ch)] below meth c s₁ [] 0 0 := Stand.of_body Bd
  have e0 : s₁.heap = h0 := by rw [← hh, Bd.state]; rfl
  have N0 := Fr.nil n0
  refine go_st (fun t k => castTop (ef_sbapc0 m sb ch) k) ?_
  show Go _ _ _ _ (s₁.setTop (mkF m 0 #[rv sb, iv ch] []))
  refine go_st (fun t k => XS.aloadN X0.here hx rfl (hb hby d21_0) rfl rfl k) ?_
  refine go_st (fun t k => XS.iloadN X0.here hx rfl (hb hby d21_1) rfl k) ?_
  show Go _ _ _ _ (s₁.setTop (mkF m 2 #[rv sb, iv ch] [(.int ch), (.ref sb)]))
  obtain ⟨_, _, ⟨T1, L1, kk1, nn1⟩, -, X1, ⟨Lc1, hQ1, lq1, yq1, zq1⟩, st1⟩ := superBack X0 hx hZ (y := mn22) hown (w129 hw) (same_self (w130 hw) (nf_same (y := mn22) (y' := mn7) rfl (w54 hw) (notFace_of_selects (w55 hw))) (by decide)) (w130 hw) (w64 hw) (by decide) (backOf (W := 0) (rm_asbapc0 l Z a0 hw [] sb va kv u0 u1 ml ch G1 h0 n0 (Nat.le_trans Z0 (Nat.le_refl _)) H0 H1 H2 H3 H4 H5 g_sb g_va hch CS CSn O0) hZ (w132 hw) (w20 hw) (by decide) (by decide)) e0 (a := sb) (Ins.self H0) (g := (mkF m 2 #[rv sb, iv ch] [(.int ch), (.ref sb)])) rfl (by rw [hml]; rfl) (w132 hw) (argsL := [(.int ch)]) (rest := []) (lenOf pd_12 rfl) rfl (by show 2 * 0 + _ ≤ _; exact Nat.le_of_eq rfl) (hb hby d21_2) (fun _ _ => ⟨rfl, e0, (by decide : 0 + 0 ≤ _), (by decide : 0 + 0 ≤ _)⟩)
  dsimp only [Pt.U, Pt.locs, Pt.cells, Pt.slots] at X1 lq1 yq1 zq1 st1 hQ1
  subst lq1 yq1 zq1
  obtain ⟨h1, e1⟩ : ∃ z, T1.heap = z := ⟨_, rfl⟩
  rw [e1] at hQ1
  obtain ⟨rfl, N1q, K1, p1_0, p1_1, p1_2, p1_3, p1_4, p1_5⟩ := hQ1
  have N1 := Fr.app N0 N1q
  refine go_tr st1 ?_
  show Go _ _ _ _ (T1.setTop (mkF m 5 #[rv sb, iv ch] [(.ref sb)]))
  refine go_st (fun t k => XS.pop X1.here hx rfl (hb hby d21_5) rfl rfl k) ?_
  refine go_st (fun t k => XS.aloadN X1.here hx rfl (hb hby d21_6) rfl rfl k) ?_
  show Go _ _ _ _ (T1.setTop (mkF m 7 #[rv sb, iv ch] [(.ref sb)]))
  have ke2 : Keep h0 h1 [sb, va] := (Keep.trans (Keep.refl h0 [sb, va]) K1 (allS (Or.inl (List.mem_of_getElem? (i := 0) rfl)) (allS (Or.inl (List.mem_of_getElem? (i := 1) rfl)) all0)))
  obtain ⟨fs, hr, hrun, hended, hW, hsame⟩ := X1.leave (v := some (.ref sb)) (fun h => by rw [Bd.returns] at h; cases h)
  refine ⟨_, _, ?_, hrun, hended, _, _, rfl, ?_, ⟨_, rfl⟩, hW, hsame.mono (by decide) (by decide)⟩
  · exact retOut X1 hx Bd.returns rfl (Or.inr (Or.inr (Or.inr (Or.inr ⟨rfl, rfl, rfl⟩)))) (hb hby d21_7) hr
  · show Q_sbapc0 _ _ _ _ _ _ _ _ _ _ _ _ T1.heap _
    rw [e1]
    exact ⟨rfl, N1, ke2, p1_0, p1_1, p1_2, p1_3, p1_4, p1_5⟩
def Q_open (Z : State) (jw : Addr) (sb : Addr) (va : Addr) (kv : ClassId) (u0 : Int32) (u1 : Int32) (ml : Int32) (ch : Int32) (G1 : Int32) (h0 : Heap) (n0 : Nat) (vR : Option Value) (h : Heap) (L : List Loc) : Prop := vR = some (.ref jw) ∧ Fr n0 L ∧ Keep h0 h [sb, va, jw] ∧ (Exa Z h jw cJW) ∧ (Fld Z h jw cJW "text" "Ljava/lang/StringBuilder;" (.ref sb)) ∧ (Fld Z h jw cJW "afterValue" "Z" (.int 0)) ∧ (Exa Z h sb cSB) ∧ (Fld Z h sb cAS "value" "[B" (.ref va)) ∧ (Fld Z h sb cAS "coder" "B" (.int 0)) ∧ (Fld Z h sb cAS "count" "I" (.int 1)) ∧ (Fld Z h sb cAS "maybeLatin1" "Z" (.int ml)) ∧ (Arv Z h va kv .byte (16 : Int32) [(.int (nar .byte (ch.toInt8.toInt32))), (.int u1)] (.int (0 : Int32)))
theorem ef_open (m : MethodId) (x0 : Addr) (x1 : Int32) : entryFrame m #[(.ref x0), (.int x1)] 2 = mkF m 0 #[.val (.ref x0), .val (.int x1)] [] := by first | (simp [entryFrame, mkF, argsToLocals, Value.category]; done) | rfl
set_option maxRecDepth 65536 in
set_option maxHeartbeats 40000000 in
theorem rm_open (l : Launch) (Z : State) (a0 : Array Value) (hw : ∀ d ∈ tables_1, d.before a0 Z = true) (ws : List Jvm.Cond) (jw : Addr) (sb : Addr) (va : Addr) (kv : ClassId) (u0 : Int32) (u1 : Int32) (ml : Int32) (ch : Int32) (G1 : Int32) (h0 : Heap) (n0 : Nat) (Z0 : n0 ≤ h0.size) (H0 : Exa Z h0 jw cJW) (H1 : Fld Z h0 jw cJW "text" "Ljava/lang/StringBuilder;" (.ref sb)) (H2 : Fld Z h0 jw cJW "afterValue" "Z" (.int 0)) (H3 : Exa Z h0 sb cSB) (H4 : Fld Z h0 sb cAS "value" "[B" (.ref va)) (H5 : Fld Z h0 sb cAS "coder" "B" (.int 0)) (H6 : Fld Z h0 sb cAS "count" "I" (.int 0)) (H7 : Fld Z h0 sb cAS "maybeLatin1" "Z" (.int ml)) (H8 : Arv Z h0 va kv .byte (16 : Int32) [(.int u0), (.int u1)] (.int (0 : Int32))) (g_sb : n0 ≤ sb) (g_va : n0 ≤ va) (g_jw : n0 ≤ jw) (hch : ¬ ((255 : Int32) < ch)) (CS : Sta Z Z.heap "java/lang/String" "COMPACT_STRINGS" "Z" (.int G1)) (CSn : ¬ (G1 = (0 : Int32))) (O0 : Old Z n0 h0) :
    MetFree l mn19 (head1 (Jvm.Cond.code mn19 prog_33_method_11_code 2 (some (.object "com/example/adjoinery/adjoinery/JsonWriter")) :: ws) ({ frames := 3, cells := 0, slots := 0, locals := 40 } : Room)) (fun a U => a = #[(.ref jw), (.int ch)] ∧ Z.Warmed39 U.vm ∧ U.heap = h0) (fun _ _ _ _ _ => True) (fun _ U o U' => ∃ v L, o = .returned v ∧ Q_open Z jw sb va kv u0 u1 ml ch G1 h0 n0 v U'.heap L ∧ FrameEnd U o U' L ({ frames := 3, cells := 0, slots := 0, locals := 40 } : Room).cells ({ frames := 3, cells := 0, slots := 0, locals := 40 } : Room).slots) := by
  refine MetFree.of_bodySF (plainFor_of_name pn_com_example_adjoinery_adjoinery_JsonWriter) hisR ?_
  intro p e s m args below meth c s₁ Bd hml0 hP hK
  obtain ⟨rfl, hZ, hh⟩ := hP
  have hx := Bd.exec
  have hby := Bd.bytes
  have hml : c.maxLocals = 2 := hml0
  have hown : s.vm.findClass "com/example/adjoinery/adjoinery/JsonWriter" = some m.cls := findClass_of_methodNamed Bd.named
  have hnm := (name_of_methodNamed Bd.named Bd.method).1
  have X0 : Stand p l e ({ frames := 3, cells := 0, slots := 0, locals := 40 } : Room) s m #[(.ref jw), (.int ch)] below meth c s₁ [] 0 0 := Stand.of_body Bd
  have e0 : s₁.heap = h0 := by rw [← hh, Bd.state]; rfl
  have N0 := Fr.nil n0
  refine go_st (fun t k => castTop (ef_open m jw ch) k) ?_
  show Go _ _ _ _ (s₁.setTop (mkF m 0 #[rv jw, iv ch] []))
  refine go_st (fun t k => XS.aloadN X0.here hx rfl (hb hby d19_0) rfl rfl k) ?_
  show Go _ _ _ _ (s₁.setTop (mkF m 1 #[rv jw, iv ch] [(.ref jw)]))
  obtain ⟨cq1, q1, q1'⟩ := H0.cell
  obtain ⟨_, _, ⟨T1, L1, kk1, nn1⟩, -, X1, ⟨Lc1, hQ1, lq1, yq1, zq1⟩, st1⟩ := X0.privateBack hx (y := mn20) hown (mvT hZ (w118 hw)) (mvT hZ (w119 hw)) (mvT hZ (sel_priv (w120 hw) (w119 hw) (nf_same (y := mn20) (y' := mn3) rfl (w34 hw) (notFace_of_selects (w35 hw))) (by decide))) (Cond.privateMethod_at (mvP hZ (w120 hw) (args := #[]))) (mvT hZ (w121 hw)) (by decide) (backOf (W := 0) (rm_sep0 l Z a0 hw [] jw h0 n0 (Nat.le_trans Z0 (Nat.le_refl _)) H2) hZ (w121 hw) (w3 hw) (by decide) (by decide)) (g := (mkF m 1 #[rv jw, iv ch] [(.ref jw)])) rfl (by rw [hml]; rfl) (Steps.refl _) (a := jw) (by rw [e0]; exact q1) q1' (argsL := []) (rest := []) (lenOf pd_1 rfl) rfl (by show 2 * 0 + _ ≤ _; exact Nat.le_of_eq rfl) (hb hby d19_1) (fun _ _ => ⟨rfl, e0, (by decide : 0 + 0 ≤ _), (by decide : 0 + 0 ≤ _)⟩)
  dsimp only [Pt.U, Pt.locs, Pt.cells, Pt.slots] at X1 lq1 yq1 zq1 st1 hQ1
  subst lq1 yq1 zq1
  obtain ⟨h1, e1⟩ : ∃ z, T1.heap = z := ⟨_, rfl⟩
  rw [e1] at hQ1
  obtain ⟨rfl, N1q, he1⟩ := hQ1
  have N1 := Fr.app N0 N1q
  rw [he1] at e1
  refine go_tr st1 ?_
  refine go_st (fun t k => XS.aloadN X1.here hx rfl (hb hby d19_4) rfl rfl k) ?_
  show Go _ _ _ _ (T1.setTop (mkF m 5 #[rv jw, iv ch] [(.ref jw)]))
  obtain ⟨T2, X2, e2, st2⟩ := getF X1 hx hZ hown (host := "") (Or.inl (w30 hw)) Via.refl e1 H1 (g := (mkF m 5 #[rv jw, iv ch] [(.ref jw)])) rfl rfl (hb hby d19_5)
  refine go_st (fun t k => st2 t k) ?_
  refine go_st (fun t k => XS.iloadN X2.here hx rfl (hb hby d19_8) rfl k) ?_
  show Go _ _ _ _ (T2.setTop (mkF m 9 #[rv jw, iv ch] [(.int ch), (.ref sb)]))
  obtain ⟨cq3, kq3, q3a, q3b, q3c⟩ := isOf hZ e2 H3
  obtain ⟨_, _, ⟨T3, L3, kk3, nn3⟩, -, X3, ⟨Lc3, hQ3, lq3, yq3, zq3⟩, st3⟩ := X2.virtualBack hx (y := mn21) (z := mn21) hown (mvT hZ (w124 hw)) (mvT hZ (w125 hw)) (nf_same (y := mn21) (y' := mn4) (a0 := #[]) rfl (mvT hZ (w39 hw)) (notFace_of_selects (args := #[]) (mvT hZ (w40 hw)))) (mvT hZ (w127 hw)) (mvT hZ (w126 hw)) (by decide) (backOf (W := 0) (rm_sbapc0 l Z a0 hw [] sb va kv u0 u1 ml ch G1 h0 n0 (Nat.le_trans Z0 (Nat.le_refl _)) H3 H4 H5 H6 H7 H8 g_sb g_va hch CS CSn O0) hZ (w128 hw) (w12 hw) (by decide) (by decide)) q3a q3c (g := (mkF m 9 #[rv jw, iv ch] [(.int ch), (.ref sb)])) rfl (by rw [hml]; rfl) (Steps.refl _) (argsL := [(.int ch)]) (rest := []) (lenOf pd_13 rfl) rfl (by show 2 * 0 + _ ≤ _; exact Nat.le_of_eq rfl) (hb hby d19_9) (fun _ _ => ⟨rfl, e2, (by decide : 0 + 0 ≤ _), (by decide : 0 + 0 ≤ _)⟩)
  dsimp only [Pt.U, Pt.locs, Pt.cells, Pt.slots] at X3 lq3 yq3 zq3 st3 hQ3
  subst lq3 yq3 zq3
  obtain ⟨h3, e3⟩ : ∃ z, T3.heap = z := ⟨_, rfl⟩
  rw [e3] at hQ3
  obtain ⟨rfl, N3q, K3, p3_0, p3_1, p3_2, p3_3, p3_4, p3_5⟩ := hQ3
  have N3 := Fr.app N1 N3q
  refine go_tr st3 ?_
  show Go _ _ _ _ (T3.setTop (mkF m 12 #[rv jw, iv ch] [(.ref sb)]))
  refine go_st (fun t k => XS.pop X3.here hx rfl (hb hby d19_12) rfl rfl k) ?_
  refine go_st (fun t k => XS.aloadN X3.here hx rfl (hb hby d19_13) rfl rfl k) ?_
  refine go_st (fun t k => XS.iconst X3.here hx rfl (hb hby d19_14) k) ?_
  show Go _ _ _ _ (T3.setTop (mkF m 15 #[rv jw, iv ch] [(.int 0), (.ref jw)]))
  have nq4 : jw ≠ va := Exa.neArv H0 H8 (w2 hw)
  have nq5 : jw ≠ sb := ne_exa H0 H3 (by decide)
  have f6 : Fld Z h3 jw cJW "afterValue" "Z" (.int 0) := (H2.keep K3 (ninS nq5 (ninS nq4 nin0)))
  have f7 : Exa Z h3 jw cJW := (H0.keep K3)
  obtain ⟨T8, h8, X8, e8, W8, st8⟩ := putFN X3 hx hZ hown (w122 hw) Via.refl e3 f6 f7 (Or.inl (w123 hw)) (w2 hw) (ty := .boolean) (v' := (.int 0)) (by decide) rfl rfl (g := (mkF m 15 #[rv jw, iv ch] [(.int 0), (.ref jw)])) rfl rfl (hb hby d19_15)
  have N8 := Fr.snoc X8 N3 g_jw
  have f9 : Fld Z h8 jw cJW "afterValue" "Z" (.int 0) := f6.same W8
  refine go_st (fun t k => st8 t k) ?_
  refine go_st (fun t k => XS.aloadN X8.here hx rfl (hb hby d19_18) rfl rfl k) ?_
  show Go _ _ _ _ (T8.setTop (mkF m 19 #[rv jw, iv ch] [(.ref jw)]))
  have f10 : Exa Z h8 jw cJW := (f7.wr W8)
  have f11 : Fld Z h8 jw cJW "text" "Ljava/lang/StringBuilder;" (.ref sb) := ((H1.keep K3 (ninS nq5 (ninS nq4 nin0))).other W8 (Or.inr (slot_ne (Or.inr (w31 hw)) (Or.inl (w123 hw)) (by decide) (t := (.object "java/lang/StringBuilder")) (t' := .boolean) (by decide) (by decide))))
  have f12 : Exa Z h8 sb cSB := (p3_0.wr W8)
  have f13 : Fld Z h8 sb cAS "value" "[B" (.ref va) := (p3_1.other W8 (Or.inl (Ne.symm nq5)))
  have f14 : Fld Z h8 sb cAS "coder" "B" (.int 0) := (p3_2.other W8 (Or.inl (Ne.symm nq5)))
  have f15 : Fld Z h8 sb cAS "count" "I" (.int 1) := (p3_3.other W8 (Or.inl (Ne.symm nq5)))
  have f16 : Fld Z h8 sb cAS "maybeLatin1" "Z" (.int ml) := (p3_4.other W8 (Or.inl (Ne.symm nq5)))
  have f17 : Arv Z h8 va kv .byte (16 : Int32) [(.int (nar .byte (ch.toInt8.toInt32))), (.int u1)] (.int (0 : Int32)) := (p3_5.other W8 (Ne.symm nq4))
  have ke18 : Keep h0 h3 [sb, va, jw] := (Keep.trans (Keep.refl h0 [sb, va, jw]) K3 (allS (Or.inl (List.mem_of_getElem? (i := 0) rfl)) (allS (Or.inl (List.mem_of_getElem? (i := 1) rfl)) all0)))
  have ke19 : Keep h0 h8 [sb, va, jw] := (Keep.wr ke18 W8 (Or.inl (List.mem_of_getElem? (i := 2) rfl)))
  obtain ⟨fs, hr, hrun, hended, hW, hsame⟩ := X8.leave (v := some (.ref jw)) (fun h => by rw [Bd.returns] at h; cases h)
  refine ⟨_, _, ?_, hrun, hended, _, _, rfl, ?_, ⟨_, rfl⟩, hW, hsame.mono (by decide) (by decide)⟩
  · exact retOut X8 hx Bd.returns rfl (Or.inr (Or.inr (Or.inr (Or.inr ⟨rfl, rfl, rfl⟩)))) (hb hby d19_19) hr
  · show Q_open _ _ _ _ _ _ _ _ _ _ _ _ _ T8.heap _
    rw [e8]
    exact ⟨rfl, N8, ke19, f10, f11, f9, f12, f13, f14, f15, f16, f17⟩
def Q_start (Z : State) (jw : Addr) (sb : Addr) (va : Addr) (kv : ClassId) (u0 : Int32) (u1 : Int32) (ml : Int32) (G1 : Int32) (h0 : Heap) (n0 : Nat) (vR : Option Value) (h : Heap) (L : List Loc) : Prop := vR = some (.ref jw) ∧ Fr n0 L ∧ Keep h0 h [sb, va, jw] ∧ (Exa Z h jw cJW) ∧ (Fld Z h jw cJW "text" "Ljava/lang/StringBuilder;" (.ref sb)) ∧ (Fld Z h jw cJW "afterValue" "Z" (.int 0)) ∧ (Exa Z h sb cSB) ∧ (Fld Z h sb cAS "value" "[B" (.ref va)) ∧ (Fld Z h sb cAS "coder" "B" (.int 0)) ∧ (Fld Z h sb cAS "count" "I" (.int 1)) ∧ (Fld Z h sb cAS "maybeLatin1" "Z" (.int ml)) ∧ (Arv Z h va kv .byte (16 : Int32) [(.int (nar .byte ((91 : Int32).toInt8.toInt32))), (.int u1)] (.int (0 : Int32)))
theorem ef_start (m : MethodId) (x0 : Addr) : entryFrame m #[(.ref x0)] 1 = mkF m 0 #[.val (.ref x0)] [] := by first | (simp [entryFrame, mkF, argsToLocals, Value.category]; done) | rfl
set_option maxRecDepth 65536 in
set_option maxHeartbeats 40000000 in
theorem rm_start (l : Launch) (Z : State) (a0 : Array Value) (hw : ∀ d ∈ tables_1, d.before a0 Z = true) (ws : List Jvm.Cond) (jw : Addr) (sb : Addr) (va : Addr) (kv : ClassId) (u0 : Int32) (u1 : Int32) (ml : Int32) (G1 : Int32) (h0 : Heap) (n0 : Nat) (Z0 : n0 ≤ h0.size) (H0 : Exa Z h0 jw cJW) (H1 : Fld Z h0 jw cJW "text" "Ljava/lang/StringBuilder;" (.ref sb)) (H2 : Fld Z h0 jw cJW "afterValue" "Z" (.int 0)) (H3 : Exa Z h0 sb cSB) (H4 : Fld Z h0 sb cAS "value" "[B" (.ref va)) (H5 : Fld Z h0 sb cAS "coder" "B" (.int 0)) (H6 : Fld Z h0 sb cAS "count" "I" (.int 0)) (H7 : Fld Z h0 sb cAS "maybeLatin1" "Z" (.int ml)) (H8 : Arv Z h0 va kv .byte (16 : Int32) [(.int u0), (.int u1)] (.int (0 : Int32))) (g_sb : n0 ≤ sb) (g_va : n0 ≤ va) (g_jw : n0 ≤ jw) (CS : Sta Z Z.heap "java/lang/String" "COMPACT_STRINGS" "Z" (.int G1)) (CSn : ¬ (G1 = (0 : Int32))) (O0 : Old Z n0 h0) :
    MetFree l mn18 (head1 (Jvm.Cond.code mn18 prog_33_method_4_code 1 (some (.object "com/example/adjoinery/adjoinery/JsonWriter")) :: ws) ({ frames := 4, cells := 0, slots := 0, locals := 53 } : Room)) (fun a U => a = #[(.ref jw)] ∧ Z.Warmed39 U.vm ∧ U.heap = h0) (fun _ _ _ _ _ => True) (fun _ U o U' => ∃ v L, o = .returned v ∧ Q_start Z jw sb va kv u0 u1 ml G1 h0 n0 v U'.heap L ∧ FrameEnd U o U' L ({ frames := 4, cells := 0, slots := 0, locals := 53 } : Room).cells ({ frames := 4, cells := 0, slots := 0, locals := 53 } : Room).slots) := by
  refine MetFree.of_bodySF (plainFor_of_name pn_com_example_adjoinery_adjoinery_JsonWriter) hisR ?_
  intro p e s m args below meth c s₁ Bd hml0 hP hK
  obtain ⟨rfl, hZ, hh⟩ := hP
  have hx := Bd.exec
  have hby := Bd.bytes
  have hml : c.maxLocals = 1 := hml0
  have hown : s.vm.findClass "com/example/adjoinery/adjoinery/JsonWriter" = some m.cls := findClass_of_methodNamed Bd.named
  have hnm := (name_of_methodNamed Bd.named Bd.method).1
  have X0 : Stand p l e ({ frames := 4, cells := 0, slots := 0, locals := 53 } : Room) s m #[(.ref jw)] below meth c s₁ [] 0 0 := Stand.of_body Bd
  have e0 : s₁.heap = h0 := by rw [← hh, Bd.state]; rfl
  have N0 := Fr.nil n0
  refine go_st (fun t k => castTop (ef_start m jw) k) ?_
  show Go _ _ _ _ (s₁.setTop (mkF m 0 #[rv jw] []))
  refine go_st (fun t k => XS.aloadN X0.here hx rfl (hb hby d18_0) rfl rfl k) ?_
  refine go_st (fun t k => XS.bipush X0.here hx rfl (hb hby d18_1) k) ?_
  show Go _ _ _ _ (s₁.setTop (mkF m 3 #[rv jw] [(.int 91), (.ref jw)]))
  obtain ⟨cq1, q1, q1'⟩ := H0.cell
  obtain ⟨_, _, ⟨T1, L1, kk1, nn1⟩, -, X1, ⟨Lc1, hQ1, lq1, yq1, zq1⟩, st1⟩ := X0.privateBack hx (y := mn19) hown (mvT hZ (w114 hw)) (mvT hZ (w115 hw)) (mvT hZ (sel_priv (w116 hw) (w115 hw) (nf_same (y := mn19) (y' := mn3) rfl (w34 hw) (notFace_of_selects (w35 hw))) (by decide))) (Cond.privateMethod_at (mvP hZ (w116 hw) (args := #[]))) (mvT hZ (w117 hw)) (by decide) (backOf (W := 0) (rm_open l Z a0 hw [] jw sb va kv u0 u1 ml (91 : Int32) G1 h0 n0 (Nat.le_trans Z0 (Nat.le_refl _)) H0 H1 H2 H3 H4 H5 H6 H7 H8 g_sb g_va g_jw (by decide) CS CSn O0) hZ (w117 hw) (w3 hw) (by decide) (by decide)) (g := (mkF m 3 #[rv jw] [(.int 91), (.ref jw)])) rfl (by rw [hml]; rfl) (Steps.refl _) (a := jw) (by rw [e0]; exact q1) q1' (argsL := [(.int 91)]) (rest := []) (lenOf pd_14 rfl) rfl (by show 2 * 0 + _ ≤ _; exact Nat.le_of_eq rfl) (hb hby d18_3) (fun _ _ => ⟨rfl, e0, (by decide : 0 + 0 ≤ _), (by decide : 0 + 0 ≤ _)⟩)
  dsimp only [Pt.U, Pt.locs, Pt.cells, Pt.slots] at X1 lq1 yq1 zq1 st1 hQ1
  subst lq1 yq1 zq1
  obtain ⟨h1, e1⟩ : ∃ z, T1.heap = z := ⟨_, rfl⟩
  rw [e1] at hQ1
  obtain ⟨rfl, N1q, K1, p1_0, p1_1, p1_2, p1_3, p1_4, p1_5, p1_6, p1_7, p1_8⟩ := hQ1
  have N1 := Fr.app N0 N1q
  refine go_tr st1 ?_
  show Go _ _ _ _ (T1.setTop (mkF m 6 #[rv jw] [(.ref jw)]))
  have ke2 : Keep h0 h1 [sb, va, jw] := (Keep.trans (Keep.refl h0 [sb, va, jw]) K1 (allS (Or.inl (List.mem_of_getElem? (i := 0) rfl)) (allS (Or.inl (List.mem_of_getElem? (i := 1) rfl)) (allS (Or.inl (List.mem_of_getElem? (i := 2) rfl)) all0))))
  obtain ⟨fs, hr, hrun, hended, hW, hsame⟩ := X1.leave (v := some (.ref jw)) (fun h => by rw [Bd.returns] at h; cases h)
  refine ⟨_, _, ?_, hrun, hended, _, _, rfl, ?_, ⟨_, rfl⟩, hW, hsame.mono (by decide) (by decide)⟩
  · exact retOut X1 hx Bd.returns rfl (Or.inr (Or.inr (Or.inr (Or.inr ⟨rfl, rfl, rfl⟩)))) (hb hby d18_6) hr
  · show Q_start _ _ _ _ _ _ _ _ _ _ _ _ T1.heap _
    rw [e1]
    exact ⟨rfl, N1, ke2, p1_0, p1_1, p1_2, p1_3, p1_4, p1_5, p1_6, p1_7, p1_8⟩
def Q_asb_len1 (Z : State) (sb : Addr) (h0 : Heap) (n0 : Nat) (vR : Option Value) (h : Heap) (L : List Loc) : Prop := vR = some (.int 1) ∧ Fr n0 L ∧ h = h0
theorem ef_asb_len1 (m : MethodId) (x0 : Addr) : entryFrame m #[(.ref x0)] 1 = mkF m 0 #[.val (.ref x0)] [] := by first | (simp [entryFrame, mkF, argsToLocals, Value.category]; done) | rfl
set_option maxRecDepth 65536 in
set_option maxHeartbeats 40000000 in
theorem rm_asb_len1 (l : Launch) (Z : State) (a0 : Array Value) (hw : ∀ d ∈ tables_1, d.before a0 Z = true) (ws : List Jvm.Cond) (sb : Addr) (h0 : Heap) (n0 : Nat) (Z0 : n0 ≤ h0.size) (H0 : Exa Z h0 sb cSB) (H1 : Fld Z h0 sb cAS "count" "I" (.int 1)) :
    MetFree l mn9 (head1 (Jvm.Cond.code mn9 jdk_68_method_6_code 1 (some .int) :: ws) ({ frames := 0, cells := 0, slots := 0, locals := 0 } : Room)) (fun a U => a = #[(.ref sb)] ∧ Z.Warmed39 U.vm ∧ U.heap = h0) (fun _ _ _ _ _ => True) (fun _ U o U' => ∃ v L, o = .returned v ∧ Q_asb_len1 Z sb h0 n0 v U'.heap L ∧ FrameEnd U o U' L ({ frames := 0, cells := 0, slots := 0, locals := 0 } : Room).cells ({ frames := 0, cells := 0, slots := 0, locals := 0 } : Room).slots) := by
  refine MetFree.of_bodySF (plainFor_of_name pn_java_lang_AbstractStringBuilder) hisR ?_
  intro p e s m args below meth c s₁ Bd hml0 hP hK
  obtain ⟨rfl, hZ, hh⟩ := hP
  have hx := Bd.exec
  have hby := Bd.bytes
  have hml : c.maxLocals = 1 := hml0
  have hown : s.vm.findClass "java/lang/AbstractStringBuilder" = some m.cls := findClass_of_methodNamed Bd.named
  have hnm := (name_of_methodNamed Bd.named Bd.method).1
  have X0 : Stand p l e ({ frames := 0, cells := 0, slots := 0, locals := 0 } : Room) s m #[(.ref sb)] below meth c s₁ [] 0 0 := Stand.of_body Bd
  have e0 : s₁.heap = h0 := by rw [← hh, Bd.state]; rfl
  have N0 := Fr.nil n0
  refine go_st (fun t k => castTop (ef_asb_len1 m sb) k) ?_
  show Go _ _ _ _ (s₁.setTop (mkF m 0 #[rv sb] []))
  refine go_st (fun t k => XS.aloadN X0.here hx rfl (hb hby d9_0) rfl rfl k) ?_
  show Go _ _ _ _ (s₁.setTop (mkF m 1 #[rv sb] [(.ref sb)]))
  obtain ⟨T1, X1, e1, st1⟩ := getF X0 hx hZ hown (host := "") (Or.inl (w66 hw)) Via.refl e0 H1 (g := (mkF m 1 #[rv sb] [(.ref sb)])) rfl rfl (hb hby d9_1)
  refine go_st (fun t k => st1 t k) ?_
  show Go _ _ _ _ (T1.setTop (mkF m 4 #[rv sb] [(.int 1)]))
  obtain ⟨fs, hr, hrun, hended, hW, hsame⟩ := X1.leave (v := some (.int 1)) (fun h => by rw [Bd.returns] at h; cases h)
  refine ⟨_, _, ?_, hrun, hended, _, _, rfl, ?_, ⟨_, rfl⟩, hW, hsame.mono (by decide) (by decide)⟩
  · exact retI X1 hx Bd.returns (hb hby d9_4) hr
  · show Q_asb_len1 _ _ _ _ _ T1.heap _
    rw [e1]
    exact ⟨rfl, N0, rfl⟩
def Q_sb_len1 (Z : State) (sb : Addr) (h0 : Heap) (n0 : Nat) (vR : Option Value) (h : Heap) (L : List Loc) : Prop := vR = some (.int 1) ∧ Fr n0 L ∧ h = h0
theorem ef_sb_len1 (m : MethodId) (x0 : Addr) : entryFrame m #[(.ref x0)] 1 = mkF m 0 #[.val (.ref x0)] [] := by first | (simp [entryFrame, mkF, argsToLocals, Value.category]; done) | rfl
set_option maxRecDepth 65536 in
set_option maxHeartbeats 40000000 in
theorem rm_sb_len1 (l : Launch) (Z : State) (a0 : Array Value) (hw : ∀ d ∈ tables_1, d.before a0 Z = true) (ws : List Jvm.Cond) (sb : Addr) (h0 : Heap) (n0 : Nat) (Z0 : n0 ≤ h0.size) (H0 : Exa Z h0 sb cSB) (H1 : Fld Z h0 sb cAS "count" "I" (.int 1)) :
    MetFree l mn8 (head1 (Jvm.Cond.code mn8 jdk_67_method_93_code 1 (some .int) :: ws) ({ frames := 1, cells := 0, slots := 0, locals := 12 } : Room)) (fun a U => a = #[(.ref sb)] ∧ Z.Warmed39 U.vm ∧ U.heap = h0) (fun _ _ _ _ _ => True) (fun _ U o U' => ∃ v L, o = .returned v ∧ Q_sb_len1 Z sb h0 n0 v U'.heap L ∧ FrameEnd U o U' L ({ frames := 1, cells := 0, slots := 0, locals := 12 } : Room).cells ({ frames := 1, cells := 0, slots := 0, locals := 12 } : Room).slots) := by
  refine MetFree.of_bodySF (plainFor_of_name pn_java_lang_StringBuilder) hisR ?_
  intro p e s m args below meth c s₁ Bd hml0 hP hK
  obtain ⟨rfl, hZ, hh⟩ := hP
  have hx := Bd.exec
  have hby := Bd.bytes
  have hml : c.maxLocals = 1 := hml0
  have hown : s.vm.findClass "java/lang/StringBuilder" = some m.cls := findClass_of_methodNamed Bd.named
  have hnm := (name_of_methodNamed Bd.named Bd.method).1
  have X0 : Stand p l e ({ frames := 1, cells := 0, slots := 0, locals := 12 } : Room) s m #[(.ref sb)] below meth c s₁ [] 0 0 := Stand.of_body Bd
  have e0 : s₁.heap = h0 := by rw [← hh, Bd.state]; rfl
  have N0 := Fr.nil n0
  refine go_st (fun t k => castTop (ef_sb_len1 m sb) k) ?_
  show Go _ _ _ _ (s₁.setTop (mkF m 0 #[rv sb] []))
  refine go_st (fun t k => XS.aloadN X0.here hx rfl (hb hby d8_0) rfl rfl k) ?_
  show Go _ _ _ _ (s₁.setTop (mkF m 1 #[rv sb] [(.ref sb)]))
  obtain ⟨_, _, ⟨T1, L1, kk1, nn1⟩, -, X1, ⟨Lc1, hQ1, lq1, yq1, zq1⟩, st1⟩ := superBack X0 hx hZ (y := mn9) hown (w63 hw) (same_self (w59 hw) (nf_same (y := mn9) (y' := mn7) rfl (w54 hw) (notFace_of_selects (w55 hw))) (by decide)) (w59 hw) (w64 hw) (by decide) (backOf (W := 0) (rm_asb_len1 l Z a0 hw [] sb h0 n0 (Nat.le_trans Z0 (Nat.le_refl _)) H0 H1) hZ (w65 hw) (w20 hw) (by decide) (by decide)) e0 (a := sb) (Ins.self H0) (g := (mkF m 1 #[rv sb] [(.ref sb)])) rfl (by rw [hml]; rfl) (w65 hw) (argsL := []) (rest := []) (lenOf pd_3 rfl) rfl (by show 2 * 0 + _ ≤ _; exact Nat.le_of_eq rfl) (hb hby d8_1) (fun _ _ => ⟨rfl, e0, (by decide : 0 + 0 ≤ _), (by decide : 0 + 0 ≤ _)⟩)
  dsimp only [Pt.U, Pt.locs, Pt.cells, Pt.slots] at X1 lq1 yq1 zq1 st1 hQ1
  subst lq1 yq1 zq1
  obtain ⟨h1, e1⟩ : ∃ z, T1.heap = z := ⟨_, rfl⟩
  rw [e1] at hQ1
  obtain ⟨rfl, N1q, he1⟩ := hQ1
  have N1 := Fr.app N0 N1q
  rw [he1] at e1
  refine go_tr st1 ?_
  show Go _ _ _ _ (T1.setTop (mkF m 4 #[rv sb] [(.int 1)]))
  obtain ⟨fs, hr, hrun, hended, hW, hsame⟩ := X1.leave (v := some (.int 1)) (fun h => by rw [Bd.returns] at h; cases h)
  refine ⟨_, _, ?_, hrun, hended, _, _, rfl, ?_, ⟨_, rfl⟩, hW, hsame.mono (by decide) (by decide)⟩
  · exact retI X1 hx Bd.returns (hb hby d8_4) hr
  · show Q_sb_len1 _ _ _ _ _ T1.heap _
    rw [e1]
    exact ⟨rfl, N1, rfl⟩
def Q_chk1 (Z : State)  (h0 : Heap) (n0 : Nat) (vR : Option Value) (h : Heap) (L : List Loc) : Prop := vR = none ∧ Fr n0 L ∧ h = h0
theorem ef_chk1 (m : MethodId) (x0 : Int32) (x1 : Int32) : entryFrame m #[(.int x0), (.int x1)] 2 = mkF m 0 #[.val (.int x0), .val (.int x1)] [] := by first | (simp [entryFrame, mkF, argsToLocals, Value.category]; done) | rfl
set_option maxRecDepth 65536 in
set_option maxHeartbeats 40000000 in
theorem rm_chk1 (l : Launch) (Z : State) (a0 : Array Value) (hw : ∀ d ∈ tables_1, d.before a0 Z = true) (ws : List Jvm.Cond)  (h0 : Heap) (n0 : Nat) (Z0 : n0 ≤ h0.size)  :
    MetFree l mn13 (head1 (Jvm.Cond.code mn13 jdk_65_method_131_code 2 none :: ws) ({ frames := 0, cells := 0, slots := 0, locals := 0 } : Room)) (fun a U => a = #[(.int 0), (.int 1)] ∧ Z.Warmed39 U.vm ∧ U.heap = h0) (fun _ _ _ _ _ => True) (fun _ U o U' => ∃ v L, o = .returned v ∧ Q_chk1 Z h0 n0 v U'.heap L ∧ FrameEnd U o U' L ({ frames := 0, cells := 0, slots := 0, locals := 0 } : Room).cells ({ frames := 0, cells := 0, slots := 0, locals := 0 } : Room).slots) := by
  refine MetFree.of_bodySF (plainFor_of_name pn_java_util_Arrays) hisR ?_
  intro p e s m args below meth c s₁ Bd hml0 hP hK
  obtain ⟨rfl, hZ, hh⟩ := hP
  have hx := Bd.exec
  have hby := Bd.bytes
  have hml : c.maxLocals = 2 := hml0
  have hown : s.vm.findClass "java/util/Arrays" = some m.cls := findClass_of_methodNamed Bd.named
  have hnm := (name_of_methodNamed Bd.named Bd.method).1
  have X0 : Stand p l e ({ frames := 0, cells := 0, slots := 0, locals := 0 } : Room) s m #[(.int 0), (.int 1)] below meth c s₁ [] 0 0 := Stand.of_body Bd
  have e0 : s₁.heap = h0 := by rw [← hh, Bd.state]; rfl
  have N0 := Fr.nil n0
  refine go_st (fun t k => castTop (ef_chk1 m (0 : Int32) (1 : Int32)) k) ?_
  show Go _ _ _ _ (s₁.setTop (mkF m 0 #[iv 0, iv 1] []))
  refine go_st (fun t k => XS.iloadN X0.here hx rfl (hb hby d13_0) rfl k) ?_
  refine go_st (fun t k => XS.iloadN X0.here hx rfl (hb hby d13_1) rfl k) ?_
  show Go _ _ _ _ (s₁.setTop (mkF m 2 #[iv 0, iv 1] [(.int 0), (.int 1)]))
  refine go_st (fun t k => XS.icmpYes X0.here hx rfl (pc0 := 2) (pc' := 37) rfl (hb hby d13_2) rfl (flt ((by decide) : ¬ ((1 : Int32) < (0 : Int32)))).2.1 (by decide) (by decide) k) ?_
  show Go _ _ _ _ (s₁.setTop (mkF m 37 #[iv 0, iv 1] []))
  obtain ⟨fs, hr, hrun, hended, hW, hsame⟩ := X0.leave (v := none) (fun _ => rfl)
  refine ⟨_, _, ?_, hrun, hended, _, _, rfl, ?_, ⟨_, rfl⟩, hW, hsame.mono (by decide) (by decide)⟩
  · exact X0.returnOut hx Bd.returns (hb hby d13_37) hr
  · show Q_chk1 _ _ _ _ s₁.heap _
    rw [e0]
    exact ⟨rfl, N0, rfl⟩
def Q_min_16_1 (Z : State)  (h0 : Heap) (n0 : Nat) (vR : Option Value) (h : Heap) (L : List Loc) : Prop := vR = some (.int 1) ∧ Fr n0 L ∧ h = h0
theorem ef_min_16_1 (m : MethodId) (x0 : Int32) (x1 : Int32) : entryFrame m #[(.int x0), (.int x1)] 2 = mkF m 0 #[.val (.int x0), .val (.int x1)] [] := by first | (simp [entryFrame, mkF, argsToLocals, Value.category]; done) | rfl
set_option maxRecDepth 65536 in
set_option maxHeartbeats 40000000 in
theorem rm_min_16_1 (l : Launch) (Z : State) (a0 : Array Value) (hw : ∀ d ∈ tables_1, d.before a0 Z = true) (ws : List Jvm.Cond)  (h0 : Heap) (n0 : Nat) (Z0 : n0 ≤ h0.size)  :
    MetFree l mn14 (head1 (Jvm.Cond.code mn14 jdk_29_method_69_code 2 (some .int) :: ws) ({ frames := 0, cells := 0, slots := 0, locals := 0 } : Room)) (fun a U => a = #[(.int 16), (.int 1)] ∧ Z.Warmed39 U.vm ∧ U.heap = h0) (fun _ _ _ _ _ => True) (fun _ U o U' => ∃ v L, o = .returned v ∧ Q_min_16_1 Z h0 n0 v U'.heap L ∧ FrameEnd U o U' L ({ frames := 0, cells := 0, slots := 0, locals := 0 } : Room).cells ({ frames := 0, cells := 0, slots := 0, locals := 0 } : Room).slots) := by
  refine MetFree.of_bodySF (by decide +kernel) hisR ?_
  intro p e s m args below meth c s₁ Bd hml0 hP hK
  obtain ⟨rfl, hZ, hh⟩ := hP
  have hx := Bd.exec
  have hby := Bd.bytes
  have hml : c.maxLocals = 2 := hml0
  have hown : s.vm.findClass "java/lang/Math" = some m.cls := findClass_of_methodNamed Bd.named
  have hnm := (name_of_methodNamed Bd.named Bd.method).1
  have X0 : Stand p l e ({ frames := 0, cells := 0, slots := 0, locals := 0 } : Room) s m #[(.int 16), (.int 1)] below meth c s₁ [] 0 0 := Stand.of_body Bd
  have e0 : s₁.heap = h0 := by rw [← hh, Bd.state]; rfl
  have N0 := Fr.nil n0
  refine go_st (fun t k => castTop (ef_min_16_1 m (16 : Int32) (1 : Int32)) k) ?_
  show Go _ _ _ _ (s₁.setTop (mkF m 0 #[iv 16, iv 1] []))
  refine go_st (fun t k => XS.iloadN X0.here hx rfl (hb hby d14_0) rfl k) ?_
  refine go_st (fun t k => XS.iloadN X0.here hx rfl (hb hby d14_1) rfl k) ?_
  show Go _ _ _ _ (s₁.setTop (mkF m 2 #[iv 16, iv 1] [(.int 1), (.int 16)]))
  refine go_st (fun t k => XS.icmpYes X0.here hx rfl (pc0 := 2) (pc' := 9) rfl (hb hby d14_2) rfl (tlt ((by decide) : (1 : Int32) < (16 : Int32))).2.2.1 (by decide) (by decide) k) ?_
  show Go _ _ _ _ (s₁.setTop (mkF m 9 #[iv 16, iv 1] []))
  refine go_st (fun t k => XS.iloadN X0.here hx rfl (hb hby d14_9) rfl k) ?_
  show Go _ _ _ _ (s₁.setTop (mkF m 10 #[iv 16, iv 1] [(.int 1)]))
  obtain ⟨fs, hr, hrun, hended, hW, hsame⟩ := X0.leave (v := some (.int 1)) (fun h => by rw [Bd.returns] at h; cases h)
  refine ⟨_, _, ?_, hrun, hended, _, _, rfl, ?_, ⟨_, rfl⟩, hW, hsame.mono (by decide) (by decide)⟩
  · exact retI X0 hx Bd.returns (hb hby d14_10) hr
  · show Q_min_16_1 _ _ _ _ s₁.heap _
    rw [e0]
    exact ⟨rfl, N0, rfl⟩
def Q_crb1 (Z : State) (va : Addr) (kv : ClassId) (u0 : Int32) (u1 : Int32) (h0 : Heap) (n0 : Nat) (vR : Option Value) (h : Heap) (L : List Loc) : Prop := ∃ (ta : Addr) (kt : ClassId), vR = some (.ref ta) ∧ Fr n0 L ∧ Keep h0 h [] ∧ n0 ≤ ta ∧ h0.size ≤ ta ∧ (Arv Z h ta kt .byte (1 : Int32) [(.int u0)] (.int (0 : Int32)))
theorem ef_crb1 (m : MethodId) (x0 : Addr) (x1 : Int32) (x2 : Int32) : entryFrame m #[(.ref x0), (.int x1), (.int x2)] 5 = mkF m 0 #[.val (.ref x0), .val (.int x1), .val (.int x2), .unset, .unset] [] := by first | (simp [entryFrame, mkF, argsToLocals, Value.category]; done) | rfl
set_option maxRecDepth 65536 in
set_option maxHeartbeats 40000000 in
theorem rm_crb1 (l : Launch) (Z : State) (a0 : Array Value) (hw : ∀ d ∈ tables_1, d.before a0 Z = true) (ws : List Jvm.Cond) (va : Addr) (kv : ClassId) (u0 : Int32) (u1 : Int32) (h0 : Heap) (n0 : Nat) (Z0 : n0 ≤ h0.size) (H0 : Arv Z h0 va kv .byte (16 : Int32) [(.int u0), (.int u1)] (.int (0 : Int32))) :
    MetFree l mn12 (head1 (Jvm.Cond.code mn12 jdk_65_method_133_code 5 (some (.array .byte)) :: ws) ({ frames := 1, cells := 1, slots := 1, locals := 18 } : Room)) (fun a U => a = #[(.ref va), (.int 0), (.int 1)] ∧ Z.Warmed39 U.vm ∧ U.heap = h0) (fun _ _ _ _ _ => True) (fun _ U o U' => ∃ v L, o = .returned v ∧ Q_crb1 Z va kv u0 u1 h0 n0 v U'.heap L ∧ FrameEnd U o U' L ({ frames := 1, cells := 1, slots := 1, locals := 18 } : Room).cells ({ frames := 1, cells := 1, slots := 1, locals := 18 } : Room).slots) := by
  refine MetFree.of_bodySF (plainFor_of_name pn_java_util_Arrays) hisR ?_
  intro p e s m args below meth c s₁ Bd hml0 hP hK
  obtain ⟨rfl, hZ, hh⟩ := hP
  have hx := Bd.exec
  have hby := Bd.bytes
  have hml : c.maxLocals = 5 := hml0
  have hown : s.vm.findClass "java/util/Arrays" = some m.cls := findClass_of_methodNamed Bd.named
  have hnm := (name_of_methodNamed Bd.named Bd.method).1
  have X0 : Stand p l e ({ frames := 1, cells := 1, slots := 1, locals := 18 } : Room) s m #[(.ref va), (.int 0), (.int 1)] below meth c s₁ [] 0 0 := Stand.of_body Bd
  have e0 : s₁.heap = h0 := by rw [← hh, Bd.state]; rfl
  have N0 := Fr.nil n0
  refine go_st (fun t k => castTop (ef_crb1 m va (0 : Int32) (1 : Int32)) k) ?_
  show Go _ _ _ _ (s₁.setTop (mkF m 0 #[rv va, iv 0, iv 1, .unset, .unset] []))
  refine go_st (fun t k => XS.iloadN X0.here hx rfl (hb hby d12_0) rfl k) ?_
  refine go_st (fun t k => XS.iloadN X0.here hx rfl (hb hby d12_1) rfl k) ?_
  show Go _ _ _ _ (s₁.setTop (mkF m 2 #[rv va, iv 0, iv 1, .unset, .unset] [(.int 1), (.int 0)]))
  obtain ⟨_, _, ⟨T1, L1, kk1, nn1⟩, -, X1, ⟨Lc1, hQ1, lq1, yq1, zq1⟩, st1⟩ := Jvm.LawKit.callS X0 hx (y := mn13) hown (mvT hZ (w82 hw)) (mvT hZ (w83 hw)) (mvT hZ (w77 hw)) (mvT hZ (w84 hw)) (by decide) (backOf (W := 0) (rm_chk1 l Z a0 hw []  h0 n0 (Nat.le_trans Z0 (Nat.le_refl _)) ) hZ (w84 hw) (w77 hw) (by decide) (by decide)) (g := (mkF m 2 #[rv va, iv 0, iv 1, .unset, .unset] [(.int 1), (.int 0)])) rfl (by rw [hml]; rfl) (argsL := [(.int 0), (.int 1)]) (rest := []) (lenOf pd_5 rfl) rfl (by show 2 * 0 + _ ≤ _; exact Nat.le_of_eq rfl) (hb hby d12_2) (fun _ _ => ⟨rfl, e0, (by decide : 0 + 0 ≤ _), (by decide : 0 + 0 ≤ _)⟩)
  dsimp only [Pt.U, Pt.locs, Pt.cells, Pt.slots] at X1 lq1 yq1 zq1 st1 hQ1
  subst lq1 yq1 zq1
  obtain ⟨h1, e1⟩ : ∃ z, T1.heap = z := ⟨_, rfl⟩
  rw [e1] at hQ1
  obtain ⟨rfl, N1q, he1⟩ := hQ1
  have N1 := Fr.app N0 N1q
  rw [he1] at e1
  refine go_st st1 ?_
  refine go_st (fun t k => XS.iloadN X1.here hx rfl (hb hby d12_5) rfl k) ?_
  refine go_st (fun t k => XS.iloadN X1.here hx rfl (hb hby d12_6) rfl k) ?_
  show Go _ _ _ _ (T1.setTop (mkF m 7 #[rv va, iv 0, iv 1, .unset, .unset] [(.int 0), (.int 1)]))
  refine go_st (fun t k => XS.isub X1.here hx rfl (hb hby d12_7) rfl k) ?_
  rw [show ((1 : Int32) - (0 : Int32)) = (1 : Int32) from by decide]
  show Go _ _ _ _ (T1.setTop (mkF m 8 #[rv va, iv 0, iv 1, .unset, .unset] [(.int 1)]))
  refine go_st (fun t k => XS.istoreN X1.here hx rfl (hb hby d12_8) rfl (l' := #[rv va, iv 0, iv 1, iv 1, .unset]) rfl k) ?_
  refine go_st (fun t k => XS.iloadN X1.here hx rfl (hb hby d12_9) rfl k) ?_
  show Go _ _ _ _ (T1.setTop (mkF m 10 #[rv va, iv 0, iv 1, iv 1, .unset] [(.int 1)]))
  obtain ⟨T2, h2, kc2, X2, e2, E2, A2, st2⟩ := newP X1 hx hZ (aty := .byte) (w25 hw) e1 (g := (mkF m 10 #[rv va, iv 0, iv 1, iv 1, .unset] [(.int 1)])) rfl (hb hby d12_10) rfl (by decide) (cap := 1) (by decide) (by decide) (by decide) (by decide)
  obtain ⟨b2, gq2⟩ : ∃ z, z = h0.size := ⟨_, rfl⟩
  rw [← gq2] at A2 st2
  have f3 : Arv Z h2 b2 kc2 .byte (1 : Int32) [(.int 0)] (.int 0) := (Arv.new A2 (by decide)).pad (pad_rep [] (.int 0) 1)
  refine go_st (fun t k => st2 t k) ?_
  refine go_st (fun t k => XS.astore X2.here hx rfl (hb hby d12_12) rfl rfl (l' := #[rv va, iv 0, iv 1, iv 1, rv b2]) rfl k) ?_
  refine go_st (fun t k => XS.aloadN X2.here hx rfl (hb hby d12_14) rfl rfl k) ?_
  refine go_st (fun t k => XS.iloadN X2.here hx rfl (hb hby d12_15) rfl k) ?_
  refine go_st (fun t k => XS.aload X2.here hx rfl (hb hby d12_16) rfl rfl k) ?_
  refine go_st (fun t k => XS.iconst X2.here hx rfl (hb hby d12_18) k) ?_
  refine go_st (fun t k => XS.aloadN X2.here hx rfl (hb hby d12_19) rfl rfl k) ?_
  show Go _ _ _ _ (T2.setTop (mkF m 20 #[rv va, iv 0, iv 1, iv 1, rv b2] [(.ref va), (.int 0), (.ref b2), (.int 0), (.ref va)]))
  have f4 : Arv Z h2 va kv .byte (16 : Int32) [(.int u0), (.int u1)] (.int (0 : Int32)) := (H0.ext E2)
  obtain ⟨zc5, zA5, zq5, zS5, zN5, zH5, zG5⟩ := id f4
  refine go_st (fun t k => X2.arraylength hx (by rw [e2]; exact zA5.1) (State.isArrayOf_alike hZ.alike zA5.2.1) (g := (mkF m 20 #[rv va, iv 0, iv 1, iv 1, rv b2] [(.ref va), (.int 0), (.ref b2), (.int 0), (.ref va)])) rfl rfl (hb hby d12_20) t k) ?_
  rw [len_of zS5 zN5]
  refine go_st (fun t k => XS.iloadN X2.here hx rfl (hb hby d12_21) rfl k) ?_
  show Go _ _ _ _ (T2.setTop (mkF m 22 #[rv va, iv 0, iv 1, iv 1, rv b2] [(.int 0), (.int 16), (.int 0), (.ref b2), (.int 0), (.ref va)]))
  refine go_st (fun t k => XS.isub X2.here hx rfl (hb hby d12_22) rfl k) ?_
  rw [show ((16 : Int32) - (0 : Int32)) = (16 : Int32) from by decide]
  show Go _ _ _ _ (T2.setTop (mkF m 23 #[rv va, iv 0, iv 1, iv 1, rv b2] [(.int 16), (.int 0), (.ref b2), (.int 0), (.ref va)]))
  refine go_st (fun t k => XS.iloadN X2.here hx rfl (hb hby d12_23) rfl k) ?_
  show Go _ _ _ _ (T2.setTop (mkF m 24 #[rv va, iv 0, iv 1, iv 1, rv b2] [(.int 1), (.int 16), (.int 0), (.ref b2), (.int 0), (.ref va)]))
  obtain ⟨_, _, ⟨T6, L6, kk6, nn6⟩, -, X6, ⟨Lc6, hQ6, lq6, yq6, zq6⟩, st6⟩ := Jvm.LawKit.callS X2 hx (y := mn14) hown (mvT hZ (w85 hw)) (mvT hZ (w86 hw)) (mvT hZ (w87 hw)) (mvT hZ (w88 hw)) (by decide) (backOf (W := 4) (rm_min_16_1 l Z a0 hw []  h2 n0 (Nat.le_trans Z0 E2.1) ) hZ (w88 hw) (w87 hw) (by decide) (by decide)) (g := (mkF m 24 #[rv va, iv 0, iv 1, iv 1, rv b2] [(.int 1), (.int 16), (.int 0), (.ref b2), (.int 0), (.ref va)])) rfl (by rw [hml]; rfl) (argsL := [(.int 16), (.int 1)]) (rest := [(.int 0), (.ref b2), (.int 0), (.ref va)]) (lenOf pd_6 rfl) rfl (by show 2 * 0 + _ ≤ _; exact Nat.le_of_eq rfl) (hb hby d12_24) (fun _ _ => ⟨rfl, e2, (by decide : 1 + 0 ≤ _), (by decide : 1 + 0 ≤ _)⟩)
  dsimp only [Pt.U, Pt.locs, Pt.cells, Pt.slots] at X6 lq6 yq6 zq6 st6 hQ6
  subst lq6 yq6 zq6
  obtain ⟨h6, e6⟩ : ∃ z, T6.heap = z := ⟨_, rfl⟩
  rw [e6] at hQ6
  obtain ⟨rfl, N6q, he6⟩ := hQ6
  have N6 := Fr.app N1 N6q
  rw [he6] at e6
  refine go_st st6 ?_
  show Go _ _ _ _ (T6.setTop (mkF m 27 #[rv va, iv 0, iv 1, iv 1, rv b2] [(.int 1), (.int 0), (.ref b2), (.int 0), (.ref va)]))
  have g_b2 : n0 ≤ b2 := Nat.le_trans (Nat.le_trans Z0 (Nat.le_refl _)) (Nat.le_of_eq gq2.symm)
  obtain ⟨T7, h7, L7, X7, e7, N7, K7, A7, st7⟩ := cpA X6 hx hZ hown (w89 hw) (w92 hw) (w90 hw) (w91 hw) e6 f4 f3 (Or.inl ⟨rfl, rfl⟩) (sp := (0 : Int32)) (dp := (0 : Int32)) (nn := (1 : Int32)) (us := [(.int u0)]) (by decide) (by decide) (by decide) (by decide) (by decide) rfl (Nat.le_of_ble_eq_true rfl) N6 g_b2 (g := (mkF m 27 #[rv va, iv 0, iv 1, iv 1, rv b2] [(.int 1), (.int 0), (.ref b2), (.int 0), (.ref va)])) rfl (by rw [hml]; rfl) rfl (hb hby d12_27) (by decide) (W := 0) (by show 2 * 0 + _ ≤ _; exact Nat.le_of_eq rfl) (by decide)
  have f8 : Arv Z h7 b2 kc2 .byte (1 : Int32) [(.int u0)] (.int 0) := A7
  refine go_st (fun t k => st7 t k) ?_
  refine go_st (fun t k => XS.aload X7.here hx rfl (hb hby d12_30) rfl rfl k) ?_
  show Go _ _ _ _ (T7.setTop (mkF m 32 #[rv va, iv 0, iv 1, iv 1, rv b2] [(.ref b2)]))
  have ke9 : Keep h0 h2 [] := (Keep.ext (Keep.refl h0 []) E2)
  have ke10 : Keep h0 h7 [] := (Keep.trans ke9 K7 (allS (Or.inr (Nat.le_of_eq gq2.symm)) all0))
  obtain ⟨fs, hr, hrun, hended, hW, hsame⟩ := X7.leave (v := some (.ref b2)) (fun h => by rw [Bd.returns] at h; cases h)
  refine ⟨_, _, ?_, hrun, hended, _, _, rfl, ?_, ⟨_, rfl⟩, hW, hsame.mono (by decide) (by decide)⟩
  · exact retOut X7 hx Bd.returns rfl (Or.inr (Or.inr (Or.inr (Or.inr ⟨rfl, rfl, rfl⟩)))) (hb hby d12_32) hr
  · show Q_crb1 _ _ _ _ _ _ _ _ T7.heap _
    rw [e7]
    exact ⟨b2, kc2, rfl, N7, ke10, g_b2, (Nat.le_of_eq gq2.symm), f8⟩
def Q_cr1 (Z : State) (va : Addr) (kv : ClassId) (u0 : Int32) (u1 : Int32) (h0 : Heap) (n0 : Nat) (vR : Option Value) (h : Heap) (L : List Loc) : Prop := ∃ (ta : Addr) (kt : ClassId), vR = some (.ref ta) ∧ Fr n0 L ∧ Keep h0 h [] ∧ n0 ≤ ta ∧ h0.size ≤ ta ∧ (Arv Z h ta kt .byte (1 : Int32) [(.int u0)] (.int (0 : Int32)))
theorem ef_cr1 (m : MethodId) (x0 : Addr) (x1 : Int32) (x2 : Int32) : entryFrame m #[(.ref x0), (.int x1), (.int x2)] 3 = mkF m 0 #[.val (.ref x0), .val (.int x1), .val (.int x2)] [] := by first | (simp [entryFrame, mkF, argsToLocals, Value.category]; done) | rfl
set_option maxRecDepth 65536 in
set_option maxHeartbeats 40000000 in
theorem rm_cr1 (l : Launch) (Z : State) (a0 : Array Value) (hw : ∀ d ∈ tables_1, d.before a0 Z = true) (ws : List Jvm.Cond) (va : Addr) (kv : ClassId) (u0 : Int32) (u1 : Int32) (h0 : Heap) (n0 : Nat) (Z0 : n0 ≤ h0.size) (H0 : Arv Z h0 va kv .byte (16 : Int32) [(.int u0), (.int u1)] (.int (0 : Int32))) :
    MetFree l mn11 (head1 (Jvm.Cond.code mn11 jdk_65_method_132_code 3 (some (.array .byte)) :: ws) ({ frames := 2, cells := 1, slots := 1, locals := 34 } : Room)) (fun a U => a = #[(.ref va), (.int 0), (.int 1)] ∧ Z.Warmed39 U.vm ∧ U.heap = h0) (fun _ _ _ _ _ => True) (fun _ U o U' => ∃ v L, o = .returned v ∧ Q_cr1 Z va kv u0 u1 h0 n0 v U'.heap L ∧ FrameEnd U o U' L ({ frames := 2, cells := 1, slots := 1, locals := 34 } : Room).cells ({ frames := 2, cells := 1, slots := 1, locals := 34 } : Room).slots) := by
  refine MetFree.of_bodySF (plainFor_of_name pn_java_util_Arrays) hisR ?_
  intro p e s m args below meth c s₁ Bd hml0 hP hK
  obtain ⟨rfl, hZ, hh⟩ := hP
  have hx := Bd.exec
  have hby := Bd.bytes
  have hml : c.maxLocals = 3 := hml0
  have hown : s.vm.findClass "java/util/Arrays" = some m.cls := findClass_of_methodNamed Bd.named
  have hnm := (name_of_methodNamed Bd.named Bd.method).1
  have X0 : Stand p l e ({ frames := 2, cells := 1, slots := 1, locals := 34 } : Room) s m #[(.ref va), (.int 0), (.int 1)] below meth c s₁ [] 0 0 := Stand.of_body Bd
  have e0 : s₁.heap = h0 := by rw [← hh, Bd.state]; rfl
  have N0 := Fr.nil n0
  refine go_st (fun t k => castTop (ef_cr1 m va (0 : Int32) (1 : Int32)) k) ?_
  show Go _ _ _ _ (s₁.setTop (mkF m 0 #[rv va, iv 0, iv 1] []))
  refine go_st (fun t k => XS.iloadN X0.here hx rfl (hb hby d11_0) rfl k) ?_
  show Go _ _ _ _ (s₁.setTop (mkF m 1 #[rv va, iv 0, iv 1] [(.int 0)]))
  refine go_st (fun t k => XS.ifNo X0.here hx rfl (hb hby d11_1) rfl ((if0 _ _).trans (teq ((by decide) : (0 : Int32) = (0 : Int32))).2) k) ?_
  show Go _ _ _ _ (s₁.setTop (mkF m 4 #[rv va, iv 0, iv 1] []))
  refine go_st (fun t k => XS.iloadN X0.here hx rfl (hb hby d11_4) rfl k) ?_
  refine go_st (fun t k => XS.aloadN X0.here hx rfl (hb hby d11_5) rfl rfl k) ?_
  show Go _ _ _ _ (s₁.setTop (mkF m 6 #[rv va, iv 0, iv 1] [(.ref va), (.int 1)]))
  obtain ⟨zc1, zA1, zq1, zS1, zN1, zH1, zG1⟩ := id H0
  refine go_st (fun t k => X0.arraylength hx (by rw [e0]; exact zA1.1) (State.isArrayOf_alike hZ.alike zA1.2.1) (g := (mkF m 6 #[rv va, iv 0, iv 1] [(.ref va), (.int 1)])) rfl rfl (hb hby d11_6) t k) ?_
  rw [len_of zS1 zN1]
  show Go _ _ _ _ (s₁.setTop (mkF m 7 #[rv va, iv 0, iv 1] [(.int 16), (.int 1)]))
  refine go_st (fun t k => XS.icmpNo X0.here hx rfl (hb hby d11_7) rfl (feq ((by decide) : ¬ ((1 : Int32) = (16 : Int32)))).1 k) ?_
  show Go _ _ _ _ (s₁.setTop (mkF m 10 #[rv va, iv 0, iv 1] []))
  refine go_st (fun t k => XS.aloadN X0.here hx rfl (hb hby d11_10) rfl rfl k) ?_
  refine go_st (fun t k => XS.iloadN X0.here hx rfl (hb hby d11_11) rfl k) ?_
  refine go_st (fun t k => XS.iloadN X0.here hx rfl (hb hby d11_12) rfl k) ?_
  show Go _ _ _ _ (s₁.setTop (mkF m 13 #[rv va, iv 0, iv 1] [(.int 1), (.int 0), (.ref va)]))
  obtain ⟨_, _, ⟨T2, L2, kk2, nn2⟩, -, X2, ⟨Lc2, hQ2, lq2, yq2, zq2⟩, st2⟩ := Jvm.LawKit.callS X0 hx (y := mn12) hown (mvT hZ (w79 hw)) (mvT hZ (w80 hw)) (mvT hZ (w77 hw)) (mvT hZ (w81 hw)) (by decide) (backOf (W := 0) (rm_crb1 l Z a0 hw [] va kv u0 u1 h0 n0 (Nat.le_trans Z0 (Nat.le_refl _)) H0) hZ (w81 hw) (w77 hw) (by decide) (by decide)) (g := (mkF m 13 #[rv va, iv 0, iv 1] [(.int 1), (.int 0), (.ref va)])) rfl (by rw [hml]; rfl) (argsL := [(.ref va), (.int 0), (.int 1)]) (rest := []) (lenOf pd_7 rfl) rfl (by show 2 * 0 + _ ≤ _; exact Nat.le_of_eq rfl) (hb hby d11_13) (fun _ _ => ⟨rfl, e0, (by decide : 0 + 1 ≤ _), (by decide : 0 + 1 ≤ _)⟩)
  dsimp only [Pt.U, Pt.locs, Pt.cells, Pt.slots] at X2 lq2 yq2 zq2 st2 hQ2
  subst lq2 yq2 zq2
  obtain ⟨h2, e2⟩ : ∃ z, T2.heap = z := ⟨_, rfl⟩
  rw [e2] at hQ2
  obtain ⟨ta_2, kt_2, rfl, N2q, K2, gf2_0, lf2_0, p2_1⟩ := hQ2
  have N2 := Fr.app N0 N2q
  refine go_st st2 ?_
  show Go _ _ _ _ (T2.setTop (mkF m 16 #[rv va, iv 0, iv 1] [(.ref ta_2)]))
  have ke3 : Keep h0 h2 [] := (Keep.trans (Keep.refl h0 []) K2 all0)
  obtain ⟨fs, hr, hrun, hended, hW, hsame⟩ := X2.leave (v := some (.ref ta_2)) (fun h => by rw [Bd.returns] at h; cases h)
  refine ⟨_, _, ?_, hrun, hended, _, _, rfl, ?_, ⟨_, rfl⟩, hW, hsame.mono (by decide) (by decide)⟩
  · exact retOut X2 hx Bd.returns rfl (Or.inr (Or.inr (Or.inr (Or.inr ⟨rfl, rfl, rfl⟩)))) (hb hby d11_16) hr
  · show Q_cr1 _ _ _ _ _ _ _ _ T2.heap _
    rw [e2]
    exact ⟨ta_2, kt_2, rfl, N2, ke3, gf2_0, lf2_0, p2_1⟩
def Q_strasb1 (Z : State) (sa : Addr) (sb : Addr) (va : Addr) (kv : ClassId) (u0 : Int32) (u1 : Int32) (ml : Int32) (G1 : Int32) (h0 : Heap) (n0 : Nat) (vR : Option Value) (h : Heap) (L : List Loc) : Prop := ∃ (ta : Addr) (kt : ClassId), vR = none ∧ Fr n0 L ∧ Keep h0 h [sa] ∧ n0 ≤ ta ∧ h0.size ≤ ta ∧ (Exa Z h sa cST) ∧ (Fld Z h sa cST "value" "[B" (.ref ta)) ∧ (Fld Z h sa cST "coder" "B" (.int 0)) ∧ (Arv Z h ta kt .byte (1 : Int32) [(.int u0)] (.int (0 : Int32)))
theorem ef_strasb1 (m : MethodId) (x0 : Addr) (x1 : Addr) : entryFrame m #[(.ref x0), (.ref x1), .null] 5 = mkF m 0 #[.val (.ref x0), .val (.ref x1), .val .null, .unset, .unset] [] := by first | (simp [entryFrame, mkF, argsToLocals, Value.category]; done) | rfl
set_option maxRecDepth 65536 in
set_option maxHeartbeats 40000000 in
theorem rm_strasb1 (l : Launch) (Z : State) (a0 : Array Value) (hw : ∀ d ∈ tables_1, d.before a0 Z = true) (ws : List Jvm.Cond) (sa : Addr) (sb : Addr) (va : Addr) (kv : ClassId) (u0 : Int32) (u1 : Int32) (ml : Int32) (G1 : Int32) (h0 : Heap) (n0 : Nat) (Z0 : n0 ≤ h0.size) (H0 : Exa Z h0 sa cST) (H1 : Fld Z h0 sa cST "value" "[B" .null) (H2 : Fld Z h0 sa cST "coder" "B" (.int 0)) (g_sa : n0 ≤ sa) (H4 : Exa Z h0 sb cSB) (H5 : Fld Z h0 sb cAS "value" "[B" (.ref va)) (H6 : Fld Z h0 sb cAS "coder" "B" (.int 0)) (H7 : Fld Z h0 sb cAS "count" "I" (.int 1)) (H8 : Fld Z h0 sb cAS "maybeLatin1" "Z" (.int ml)) (H9 : Arv Z h0 va kv .byte (16 : Int32) [(.int u0), (.int u1)] (.int (0 : Int32))) (CS : Sta Z Z.heap "java/lang/String" "COMPACT_STRINGS" "Z" (.int G1)) (CSn : ¬ (G1 = (0 : Int32))) (O0 : Old Z n0 h0) :
    MetFree l mn6 (head1 (Jvm.Cond.code mn6 jdk_42_method_150_code 5 none :: ws) ({ frames := 3, cells := 1, slots := 1, locals := 49 } : Room)) (fun a U => a = #[(.ref sa), (.ref sb), .null] ∧ Z.Warmed39 U.vm ∧ U.heap = h0) (fun _ _ _ _ _ => True) (fun _ U o U' => ∃ v L, o = .returned v ∧ Q_strasb1 Z sa sb va kv u0 u1 ml G1 h0 n0 v U'.heap L ∧ FrameEnd U o U' L ({ frames := 3, cells := 1, slots := 1, locals := 49 } : Room).cells ({ frames := 3, cells := 1, slots := 1, locals := 49 } : Room).slots) := by
  refine MetFree.of_bodySF (plainFor_of_name pn_java_lang_String) hisR ?_
  intro p e s m args below meth c s₁ Bd hml0 hP hK
  obtain ⟨rfl, hZ, hh⟩ := hP
  have hx := Bd.exec
  have hby := Bd.bytes
  have hml : c.maxLocals = 5 := hml0
  have hown : s.vm.findClass "java/lang/String" = some m.cls := findClass_of_methodNamed Bd.named
  have hnm := (name_of_methodNamed Bd.named Bd.method).1
  have X0 : Stand p l e ({ frames := 3, cells := 1, slots := 1, locals := 49 } : Room) s m #[(.ref sa), (.ref sb), .null] below meth c s₁ [] 0 0 := Stand.of_body Bd
  have e0 : s₁.heap = h0 := by rw [← hh, Bd.state]; rfl
  have N0 := Fr.nil n0
  refine go_st (fun t k => castTop (ef_strasb1 m sa sb) k) ?_
  show Go _ _ _ _ (s₁.setTop (mkF m 0 #[rv sa, rv sb, .val .null, .unset, .unset] []))
  refine go_st (fun t k => XS.aloadN X0.here hx rfl (hb hby d6_0) rfl rfl k) ?_
  show Go _ _ _ _ (s₁.setTop (mkF m 1 #[rv sa, rv sb, .val .null, .unset, .unset] [(.ref sa)]))
  obtain ⟨T1, X1, e1, st1⟩ := initO X0 hx hZ hown (w51 hw) (w8 hw) (w9 hw) e0 (g := (mkF m 1 #[rv sa, rv sb, .val .null, .unset, .unset] [(.ref sa)])) rfl (by rw [hml]; rfl) rfl (hb hby d6_1) (by decide) (W := 0) (by show 2 * 0 + _ ≤ _; exact Nat.le_of_eq rfl) (by decide)
  refine go_st (fun t k => st1 t k) ?_
  refine go_st (fun t k => XS.aloadN X1.here hx rfl (hb hby d6_4) rfl rfl k) ?_
  show Go _ _ _ _ (T1.setTop (mkF m 5 #[rv sa, rv sb, .val .null, .unset, .unset] [(.ref sb)]))
  obtain ⟨cq2, kq2, q2a, q2b, q2c⟩ := isOf hZ e1 H4
  obtain ⟨_, _, ⟨T2, L2, kk2, nn2⟩, -, X2, ⟨Lc2, hQ2, lq2, yq2, zq2⟩, st2⟩ := X1.virtualBack hx (y := mn7) (z := mn7) hown (mvT hZ (w52 hw)) (mvT hZ (w53 hw)) (notFace_of_selects (args := #[]) (mvT hZ (w55 hw))) (mvT hZ (w55 hw)) (mvT hZ (w54 hw)) (by decide) (backOf (W := 0) (rm_getv l Z a0 hw [] sb va h0 n0 (Nat.le_trans Z0 (Nat.le_refl _)) H5) hZ (w56 hw) (w20 hw) (by decide) (by decide)) q2a q2c (g := (mkF m 5 #[rv sa, rv sb, .val .null, .unset, .unset] [(.ref sb)])) rfl (by rw [hml]; rfl) (Steps.refl _) (argsL := []) (rest := []) (lenOf pd_2 rfl) rfl (by show 2 * 0 + _ ≤ _; exact Nat.le_of_eq rfl) (hb hby d6_5) (fun _ _ => ⟨rfl, e1, (by decide : 0 + 0 ≤ _), (by decide : 0 + 0 ≤ _)⟩)
  dsimp only [Pt.U, Pt.locs, Pt.cells, Pt.slots] at X2 lq2 yq2 zq2 st2 hQ2
  subst lq2 yq2 zq2
  obtain ⟨h2, e2⟩ : ∃ z, T2.heap = z := ⟨_, rfl⟩
  rw [e2] at hQ2
  obtain ⟨rfl, N2q, he2⟩ := hQ2
  have N2 := Fr.app N0 N2q
  rw [he2] at e2
  refine go_tr st2 ?_
  refine go_st (fun t k => XS.astoreN X2.here hx rfl (hb hby d6_8) rfl rfl (l' := #[rv sa, rv sb, .val .null, rv va, .unset]) rfl k) ?_
  refine go_st (fun t k => XS.aloadN X2.here hx rfl (hb hby d6_9) rfl rfl k) ?_
  show Go _ _ _ _ (T2.setTop (mkF m 10 #[rv sa, rv sb, .val .null, rv va, .unset] [(.ref sb)]))
  obtain ⟨cq3, kq3, q3a, q3b, q3c⟩ := isOf hZ e2 H4
  obtain ⟨_, _, ⟨T3, L3, kk3, nn3⟩, -, X3, ⟨Lc3, hQ3, lq3, yq3, zq3⟩, st3⟩ := X2.virtualBack hx (y := mn9) (z := mn8) hown (mvT hZ (w57 hw)) (mvT hZ (w58 hw)) (nf_same (y := mn9) (y' := mn7) (a0 := #[]) rfl (mvT hZ (w54 hw)) (notFace_of_selects (args := #[]) (mvT hZ (w55 hw)))) (mvT hZ (w60 hw)) (mvT hZ (w61 hw)) (by decide) (backOf (W := 0) (rm_sb_len1 l Z a0 hw [] sb h0 n0 (Nat.le_trans Z0 (Nat.le_refl _)) H4 H7) hZ (w62 hw) (w12 hw) (by decide) (by decide)) q3a q3c (g := (mkF m 10 #[rv sa, rv sb, .val .null, rv va, .unset] [(.ref sb)])) rfl (by rw [hml]; rfl) (Steps.refl _) (argsL := []) (rest := []) (lenOf pd_3 rfl) rfl (by show 2 * 0 + _ ≤ _; exact Nat.le_of_eq rfl) (hb hby d6_10) (fun _ _ => ⟨rfl, e2, (by decide : 0 + 0 ≤ _), (by decide : 0 + 0 ≤ _)⟩)
  dsimp only [Pt.U, Pt.locs, Pt.cells, Pt.slots] at X3 lq3 yq3 zq3 st3 hQ3
  subst lq3 yq3 zq3
  obtain ⟨h3, e3⟩ : ∃ z, T3.heap = z := ⟨_, rfl⟩
  rw [e3] at hQ3
  obtain ⟨rfl, N3q, he3⟩ := hQ3
  have N3 := Fr.app N2 N3q
  rw [he3] at e3
  refine go_tr st3 ?_
  refine go_st (fun t k => XS.istore X3.here hx rfl (hb hby d6_13) rfl (l' := #[rv sa, rv sb, .val .null, rv va, iv 1]) rfl k) ?_
  refine go_st (fun t k => XS.aloadN X3.here hx rfl (hb hby d6_15) rfl rfl k) ?_
  show Go _ _ _ _ (T3.setTop (mkF m 16 #[rv sa, rv sb, .val .null, rv va, iv 1] [(.ref sb)]))
  obtain ⟨cq4, kq4, q4a, q4b, q4c⟩ := isOf hZ e3 H4
  obtain ⟨_, _, ⟨T4, L4, kk4, nn4⟩, -, X4, ⟨Lc4, hQ4, lq4, yq4, zq4⟩, st4⟩ := X3.virtualBack hx (y := mn10) (z := mn10) hown (mvT hZ (w68 hw)) (mvT hZ (w69 hw)) (nf_same (y := mn10) (y' := mn7) (a0 := #[]) rfl (mvT hZ (w54 hw)) (notFace_of_selects (args := #[]) (mvT hZ (w55 hw)))) (mvT hZ (w71 hw)) (mvT hZ (w70 hw)) (by decide) (backOf (W := 0) (rm_isl l Z a0 hw [] sb G1 h0 n0 (Nat.le_trans Z0 (Nat.le_refl _)) H6 CS CSn O0) hZ (w72 hw) (w20 hw) (by decide) (by decide)) q4a q4c (g := (mkF m 16 #[rv sa, rv sb, .val .null, rv va, iv 1] [(.ref sb)])) rfl (by rw [hml]; rfl) (Steps.refl _) (argsL := []) (rest := []) (lenOf pd_4 rfl) rfl (by show 2 * 0 + _ ≤ _; exact Nat.le_of_eq rfl) (hb hby d6_16) (fun _ _ => ⟨rfl, e3, (by decide : 0 + 0 ≤ _), (by decide : 0 + 0 ≤ _)⟩)
  dsimp only [Pt.U, Pt.locs, Pt.cells, Pt.slots] at X4 lq4 yq4 zq4 st4 hQ4
  subst lq4 yq4 zq4
  obtain ⟨h4, e4⟩ : ∃ z, T4.heap = z := ⟨_, rfl⟩
  rw [e4] at hQ4
  obtain ⟨rfl, N4q, he4⟩ := hQ4
  have N4 := Fr.app N3 N4q
  rw [he4] at e4
  refine go_tr st4 ?_
  show Go _ _ _ _ (T4.setTop (mkF m 19 #[rv sa, rv sb, .val .null, rv va, iv 1] [(.int 1)]))
  refine go_st (fun t k => XS.ifNo X4.here hx rfl (hb hby d6_19) rfl ((if0 _ _).trans (feq ((by decide) : ¬ ((1 : Int32) = (0 : Int32)))).1) k) ?_
  show Go _ _ _ _ (T4.setTop (mkF m 22 #[rv sa, rv sb, .val .null, rv va, iv 1] []))
  refine go_st (fun t k => XS.aloadN X4.here hx rfl (hb hby d6_22) rfl rfl k) ?_
  refine go_st (fun t k => XS.iconst X4.here hx rfl (hb hby d6_23) k) ?_
  show Go _ _ _ _ (T4.setTop (mkF m 24 #[rv sa, rv sb, .val .null, rv va, iv 1] [(.int 0), (.ref sa)]))
  obtain ⟨T5, h5, X5, e5, W5, st5⟩ := putFN X4 hx hZ hown (w73 hw) Via.refl e4 H2 H0 (Or.inr ⟨(w74 hw), rfl, hnm⟩) (w43 hw) (ty := .byte) (v' := (.int 0)) (by decide) rfl rfl (g := (mkF m 24 #[rv sa, rv sb, .val .null, rv va, iv 1] [(.int 0), (.ref sa)])) rfl rfl (hb hby d6_24)
  have N5 := Fr.snoc X5 N4 g_sa
  have f6 : Fld Z h5 sa cST "coder" "B" (.int 0) := H2.same W5
  refine go_st (fun t k => st5 t k) ?_
  refine go_st (fun t k => XS.aloadN X5.here hx rfl (hb hby d6_27) rfl rfl k) ?_
  refine go_st (fun t k => XS.aloadN X5.here hx rfl (hb hby d6_28) rfl rfl k) ?_
  refine go_st (fun t k => XS.iconst X5.here hx rfl (hb hby d6_29) k) ?_
  refine go_st (fun t k => XS.iload X5.here hx rfl (hb hby d6_30) rfl k) ?_
  show Go _ _ _ _ (T5.setTop (mkF m 32 #[rv sa, rv sb, .val .null, rv va, iv 1] [(.int 1), (.int 0), (.ref va), (.ref sa)]))
  have nq7 : va ≠ sa := Ne.symm (Exa.neArv H0 H9 (w43 hw))
  have f8 : Arv Z h5 va kv .byte (16 : Int32) [(.int u0), (.int u1)] (.int (0 : Int32)) := (H9.other W5 nq7)
  obtain ⟨_, _, ⟨T9, L9, kk9, nn9⟩, -, X9, ⟨Lc9, hQ9, lq9, yq9, zq9⟩, st9⟩ := Jvm.LawKit.callS X5 hx (y := mn11) hown (mvT hZ (w75 hw)) (mvT hZ (w76 hw)) (mvT hZ (w77 hw)) (mvT hZ (w78 hw)) (by decide) (backOf (W := 1) (rm_cr1 l Z a0 hw [] va kv u0 u1 h5 n0 (Nat.le_trans Z0 (Nat.le_of_eq W5.size.symm)) f8) hZ (w78 hw) (w77 hw) (by decide) (by decide)) (g := (mkF m 32 #[rv sa, rv sb, .val .null, rv va, iv 1] [(.int 1), (.int 0), (.ref va), (.ref sa)])) rfl (by rw [hml]; rfl) (argsL := [(.ref va), (.int 0), (.int 1)]) (rest := [(.ref sa)]) (lenOf pd_7 rfl) rfl (by show 2 * 0 + _ ≤ _; exact Nat.le_of_eq rfl) (hb hby d6_32) (fun _ _ => ⟨rfl, e5, (by decide : 0 + 1 ≤ _), (by decide : 0 + 1 ≤ _)⟩)
  dsimp only [Pt.U, Pt.locs, Pt.cells, Pt.slots] at X9 lq9 yq9 zq9 st9 hQ9
  subst lq9 yq9 zq9
  obtain ⟨h9, e9⟩ : ∃ z, T9.heap = z := ⟨_, rfl⟩
  rw [e9] at hQ9
  obtain ⟨ta_9, kt_9, rfl, N9q, K9, gf9_0, lf9_0, p9_1⟩ := hQ9
  have N9 := Fr.app N5 N9q
  refine go_st st9 ?_
  show Go _ _ _ _ (T9.setTop (mkF m 35 #[rv sa, rv sb, .val .null, rv va, iv 1] [(.ref ta_9), (.ref sa)]))
  have f10 : Fld Z h9 sa cST "value" "[B" .null := ((H1.other W5 (Or.inr (slot_ne (Or.inr (w94 hw)) (Or.inr (w74 hw)) (by decide) (t := (.array .byte)) (t' := .byte) (by decide) (by decide)))).keep K9 nin0)
  have f11 : Exa Z h9 sa cST := ((H0.wr W5).keep K9)
  obtain ⟨T12, h12, X12, e12, W12, st12⟩ := putF X9 hx hZ hown (host := "") (Or.inl (w93 hw)) Via.refl e9 f10 f11 (Or.inr ⟨(w94 hw), rfl, hnm⟩) (w43 hw) (ty := (.array .byte)) (by decide) rfl rfl (g := (mkF m 35 #[rv sa, rv sb, .val .null, rv va, iv 1] [(.ref ta_9), (.ref sa)])) rfl rfl (hb hby d6_35)
  have N12 := Fr.snoc X12 N9 g_sa
  have f13 : Fld Z h12 sa cST "value" "[B" (.ref ta_9) := f10.same W12
  refine go_st (fun t k => st12 t k) ?_
  refine go_st (fun t k => XS.goto X12.here hx rfl (pc0 := 38) (pc' := 97) rfl (hb hby d6_38) (by decide) (by decide) k) ?_
  show Go _ _ _ _ (T12.setTop (mkF m 97 #[rv sa, rv sb, .val .null, rv va, iv 1] []))
  have f14 : Exa Z h12 sa cST := (f11.wr W12)
  have f15 : Fld Z h12 sa cST "coder" "B" (.int 0) := ((f6.keep K9 nin0).other W12 (Or.inr (slot_ne (Or.inr (w74 hw)) (Or.inr (w94 hw)) (by decide) (t := .byte) (t' := (.array .byte)) (by decide) (by decide))))
  have nq16 : sa ≠ ta_9 := Nat.ne_of_lt (Nat.lt_of_lt_of_le (Nat.lt_of_lt_of_le H0.lt (Nat.le_of_eq W5.size.symm)) lf9_0)
  have f17 : Arv Z h12 ta_9 kt_9 .byte (1 : Int32) [(.int u0)] (.int (0 : Int32)) := (p9_1.other W12 (Ne.symm nq16))
  have ke18 : Keep h0 h5 [sa] := (Keep.wr (Keep.refl h0 [sa]) W5 (Or.inl (List.mem_of_getElem? (i := 0) rfl)))
  have ke19 : Keep h0 h9 [sa] := (Keep.trans ke18 K9 all0)
  have ke20 : Keep h0 h12 [sa] := (Keep.wr ke19 W12 (Or.inl (List.mem_of_getElem? (i := 0) rfl)))
  obtain ⟨fs, hr, hrun, hended, hW, hsame⟩ := X12.leave (v := none) (fun _ => rfl)
  refine ⟨_, _, ?_, hrun, hended, _, _, rfl, ?_, ⟨_, rfl⟩, hW, hsame.mono (by decide) (by decide)⟩
  · exact X12.returnOut hx Bd.returns (hb hby d6_97) hr
  · show Q_strasb1 _ _ _ _ _ _ _ _ _ _ _ _ T12.heap _
    rw [e12]
    exact ⟨ta_9, kt_9, rfl, N12, ke20, gf9_0, (Nat.le_trans (Nat.le_of_eq W5.size.symm) lf9_0), f14, f13, f15, f17⟩
def Q_strsb1 (Z : State) (sa : Addr) (sb : Addr) (va : Addr) (kv : ClassId) (u0 : Int32) (u1 : Int32) (ml : Int32) (G1 : Int32) (h0 : Heap) (n0 : Nat) (vR : Option Value) (h : Heap) (L : List Loc) : Prop := ∃ (ta : Addr) (kt : ClassId), vR = none ∧ Fr n0 L ∧ Keep h0 h [sa] ∧ n0 ≤ ta ∧ h0.size ≤ ta ∧ (Exa Z h sa cST) ∧ (Fld Z h sa cST "value" "[B" (.ref ta)) ∧ (Fld Z h sa cST "coder" "B" (.int 0)) ∧ (Arv Z h ta kt .byte (1 : Int32) [(.int u0)] (.int (0 : Int32)))
theorem ef_strsb1 (m : MethodId) (x0 : Addr) (x1 : Addr) : entryFrame m #[(.ref x0), (.ref x1)] 2 = mkF m 0 #[.val (.ref x0), .val (.ref x1)] [] := by first | (simp [entryFrame, mkF, argsToLocals, Value.category]; done) | rfl
set_option maxRecDepth 65536 in
set_option maxHeartbeats 40000000 in
theorem rm_strsb1 (l : Launch) (Z : State) (a0 : Array Value) (hw : ∀ d ∈ tables_1, d.before a0 Z = true) (ws : List Jvm.Cond) (sa : Addr) (sb : Addr) (va : Addr) (kv : ClassId) (u0 : Int32) (u1 : Int32) (ml : Int32) (G1 : Int32) (h0 : Heap) (n0 : Nat) (Z0 : n0 ≤ h0.size) (H0 : Exa Z h0 sa cST) (H1 : Fld Z h0 sa cST "value" "[B" .null) (H2 : Fld Z h0 sa cST "coder" "B" (.int 0)) (g_sa : n0 ≤ sa) (H4 : Exa Z h0 sb cSB) (H5 : Fld Z h0 sb cAS "value" "[B" (.ref va)) (H6 : Fld Z h0 sb cAS "coder" "B" (.int 0)) (H7 : Fld Z h0 sb cAS "count" "I" (.int 1)) (H8 : Fld Z h0 sb cAS "maybeLatin1" "Z" (.int ml)) (H9 : Arv Z h0 va kv .byte (16 : Int32) [(.int u0), (.int u1)] (.int (0 : Int32))) (CS : Sta Z Z.heap "java/lang/String" "COMPACT_STRINGS" "Z" (.int G1)) (CSn : ¬ (G1 = (0 : Int32))) (O0 : Old Z n0 h0) :
    MetFree l mn5 (head1 (Jvm.Cond.code mn5 jdk_42_method_53_code 2 none :: ws) ({ frames := 4, cells := 1, slots := 1, locals := 65 } : Room)) (fun a U => a = #[(.ref sa), (.ref sb)] ∧ Z.Warmed39 U.vm ∧ U.heap = h0) (fun _ _ _ _ _ => True) (fun _ U o U' => ∃ v L, o = .returned v ∧ Q_strsb1 Z sa sb va kv u0 u1 ml G1 h0 n0 v U'.heap L ∧ FrameEnd U o U' L ({ frames := 4, cells := 1, slots := 1, locals := 65 } : Room).cells ({ frames := 4, cells := 1, slots := 1, locals := 65 } : Room).slots) := by
  refine MetFree.of_bodySF (plainFor_of_name pn_java_lang_String) hisR ?_
  intro p e s m args below meth c s₁ Bd hml0 hP hK
  obtain ⟨rfl, hZ, hh⟩ := hP
  have hx := Bd.exec
  have hby := Bd.bytes
  have hml : c.maxLocals = 2 := hml0
  have hown : s.vm.findClass "java/lang/String" = some m.cls := findClass_of_methodNamed Bd.named
  have hnm := (name_of_methodNamed Bd.named Bd.method).1
  have X0 : Stand p l e ({ frames := 4, cells := 1, slots := 1, locals := 65 } : Room) s m #[(.ref sa), (.ref sb)] below meth c s₁ [] 0 0 := Stand.of_body Bd
  have e0 : s₁.heap = h0 := by rw [← hh, Bd.state]; rfl
  have N0 := Fr.nil n0
  refine go_st (fun t k => castTop (ef_strsb1 m sa sb) k) ?_
  show Go _ _ _ _ (s₁.setTop (mkF m 0 #[rv sa, rv sb] []))
  refine go_st (fun t k => XS.aloadN X0.here hx rfl (hb hby d5_0) rfl rfl k) ?_
  refine go_st (fun t k => XS.aloadN X0.here hx rfl (hb hby d5_1) rfl rfl k) ?_
  refine go_st (fun t k => XS.aconstNull X0.here hx rfl (hb hby d5_2) k) ?_
  show Go _ _ _ _ (s₁.setTop (mkF m 3 #[rv sa, rv sb] [.null, (.ref sb), (.ref sa)]))
  obtain ⟨_, _, ⟨T1, L1, kk1, nn1⟩, -, X1, ⟨Lc1, hQ1, lq1, yq1, zq1⟩, st1⟩ := X0.specialBack hx (y := mn6) rfl hown (mvT hZ (w48 hw)) (mvT hZ (w49 hw)) (mvT hZ (w50 hw)) (by decide) (backOf (W := 0) (rm_strasb1 l Z a0 hw [] sa sb va kv u0 u1 ml G1 h0 n0 (Nat.le_trans Z0 (Nat.le_refl _)) H0 H1 H2 g_sa H4 H5 H6 H7 H8 H9 CS CSn O0) hZ (w50 hw) (w24 hw) (by decide) (by decide)) (g := (mkF m 3 #[rv sa, rv sb] [.null, (.ref sb), (.ref sa)])) rfl (by rw [hml]; rfl) (Steps.refl _) (a := sa) (argsL := [(.ref sb), .null]) (rest := []) (lenOf pd_8 rfl) rfl (by show 2 * 0 + _ ≤ _; exact Nat.le_of_eq rfl) (hb hby d5_3) (fun _ _ => ⟨rfl, e0, (by decide : 0 + 1 ≤ _), (by decide : 0 + 1 ≤ _)⟩)
  dsimp only [Pt.U, Pt.locs, Pt.cells, Pt.slots] at X1 lq1 yq1 zq1 st1 hQ1
  subst lq1 yq1 zq1
  obtain ⟨h1, e1⟩ : ∃ z, T1.heap = z := ⟨_, rfl⟩
  rw [e1] at hQ1
  obtain ⟨ta_1, kt_1, rfl, N1q, K1, gf1_0, lf1_0, p1_1, p1_2, p1_3, p1_4⟩ := hQ1
  have N1 := Fr.app N0 N1q
  refine go_tr st1 ?_
  show Go _ _ _ _ (T1.setTop (mkF m 6 #[rv sa, rv sb] []))
  have ke2 : Keep h0 h1 [sa] := (Keep.trans (Keep.refl h0 [sa]) K1 (allS (Or.inl (List.mem_of_getElem? (i := 0) rfl)) all0))
  obtain ⟨fs, hr, hrun, hended, hW, hsame⟩ := X1.leave (v := none) (fun _ => rfl)
  refine ⟨_, _, ?_, hrun, hended, _, _, rfl, ?_, ⟨_, rfl⟩, hW, hsame.mono (by decide) (by decide)⟩
  · exact X1.returnOut hx Bd.returns (hb hby d5_6) hr
  · show Q_strsb1 _ _ _ _ _ _ _ _ _ _ _ _ T1.heap _
    rw [e1]
    exact ⟨ta_1, kt_1, rfl, N1, ke2, gf1_0, lf1_0, p1_1, p1_2, p1_3, p1_4⟩
def Q_tos1 (Z : State) (sb : Addr) (va : Addr) (kv : ClassId) (u0 : Int32) (u1 : Int32) (ml : Int32) (G1 : Int32) (h0 : Heap) (n0 : Nat) (vR : Option Value) (h : Heap) (L : List Loc) : Prop := ∃ (sa : Addr) (ta : Addr) (kt : ClassId), vR = some (.ref sa) ∧ Fr n0 L ∧ Keep h0 h [] ∧ n0 ≤ sa ∧ h0.size ≤ sa ∧ n0 ≤ ta ∧ h0.size ≤ ta ∧ (Exa Z h sa cST) ∧ (Fld Z h sa cST "value" "[B" (.ref ta)) ∧ (Fld Z h sa cST "coder" "B" (.int 0)) ∧ (Arv Z h ta kt .byte (1 : Int32) [(.int u0)] (.int (0 : Int32)))
theorem ef_tos1 (m : MethodId) (x0 : Addr) : entryFrame m #[(.ref x0)] 1 = mkF m 0 #[.val (.ref x0)] [] := by first | (simp [entryFrame, mkF, argsToLocals, Value.category]; done) | rfl
set_option maxRecDepth 65536 in
set_option maxHeartbeats 40000000 in
theorem rm_tos1 (l : Launch) (Z : State) (a0 : Array Value) (hw : ∀ d ∈ tables_1, d.before a0 Z = true) (ws : List Jvm.Cond) (sb : Addr) (va : Addr) (kv : ClassId) (u0 : Int32) (u1 : Int32) (ml : Int32) (G1 : Int32) (h0 : Heap) (n0 : Nat) (Z0 : n0 ≤ h0.size) (H0 : Exa Z h0 sb cSB) (H1 : Fld Z h0 sb cAS "value" "[B" (.ref va)) (H2 : Fld Z h0 sb cAS "coder" "B" (.int 0)) (H3 : Fld Z h0 sb cAS "count" "I" (.int 1)) (H4 : Fld Z h0 sb cAS "maybeLatin1" "Z" (.int ml)) (H5 : Arv Z h0 va kv .byte (16 : Int32) [(.int u0), (.int u1)] (.int (0 : Int32))) (CS : Sta Z Z.heap "java/lang/String" "COMPACT_STRINGS" "Z" (.int G1)) (CSn : ¬ (G1 = (0 : Int32))) (O0 : Old Z n0 h0) :
    MetFree l mn4 (head1 (Jvm.Cond.code mn4 jdk_67_method_42_code 1 (some (.object "java/lang/String")) :: ws) ({ frames := 5, cells := 2, slots := 5, locals := 79 } : Room)) (fun a U => a = #[(.ref sb)] ∧ Z.Warmed39 U.vm ∧ U.heap = h0) (fun _ _ _ _ _ => True) (fun _ U o U' => ∃ v L, o = .returned v ∧ Q_tos1 Z sb va kv u0 u1 ml G1 h0 n0 v U'.heap L ∧ FrameEnd U o U' L ({ frames := 5, cells := 2, slots := 5, locals := 79 } : Room).cells ({ frames := 5, cells := 2, slots := 5, locals := 79 } : Room).slots) := by
  refine MetFree.of_bodySF (plainFor_of_name pn_java_lang_StringBuilder) hisR ?_
  intro p e s m args below meth c s₁ Bd hml0 hP hK
  obtain ⟨rfl, hZ, hh⟩ := hP
  have hx := Bd.exec
  have hby := Bd.bytes
  have hml : c.maxLocals = 1 := hml0
  have hown : s.vm.findClass "java/lang/StringBuilder" = some m.cls := findClass_of_methodNamed Bd.named
  have hnm := (name_of_methodNamed Bd.named Bd.method).1
  have X0 : Stand p l e ({ frames := 5, cells := 2, slots := 5, locals := 79 } : Room) s m #[(.ref sb)] below meth c s₁ [] 0 0 := Stand.of_body Bd
  have e0 : s₁.heap = h0 := by rw [← hh, Bd.state]; rfl
  have N0 := Fr.nil n0
  refine go_st (fun t k => castTop (ef_tos1 m sb) k) ?_
  show Go _ _ _ _ (s₁.setTop (mkF m 0 #[rv sb] []))
  obtain ⟨T1, h1, X1, e1, E1, A1, D1, -, st1⟩ := newO X0 hx hZ hown (w42 hw) (w43 hw) (w24 hw) e0 (g := (mkF m 0 #[rv sb] [])) rfl (hb hby d4_0) (by decide) (by decide)
  obtain ⟨b1, gq1⟩ : ∃ z, z = h0.size := ⟨_, rfl⟩
  rw [← gq1] at A1 D1 st1
  have f2 : Fld Z h1 b1 cST "coder" "B" (.int 0) := D1 (Or.inr (w74 hw)) (ty := .byte) (by decide)
  have f3 : Fld Z h1 b1 cST "value" "[B" .null := D1 (Or.inr (w94 hw)) (ty := (.array .byte)) (by decide)
  refine go_st (fun t k => st1 t k) ?_
  refine go_st (fun t k => XS.dup X1.here hx rfl (hb hby d4_3) rfl rfl k) ?_
  refine go_st (fun t k => XS.aloadN X1.here hx rfl (hb hby d4_4) rfl rfl k) ?_
  show Go _ _ _ _ (T1.setTop (mkF m 5 #[rv sb] [(.ref sb), (.ref b1), (.ref b1)]))
  have g_b1 : n0 ≤ b1 := Nat.le_trans (Nat.le_trans Z0 (Nat.le_refl _)) (Nat.le_of_eq gq1.symm)
  have f4 : Exa Z h1 sb cSB := (H0.ext E1)
  have f5 : Fld Z h1 sb cAS "value" "[B" (.ref va) := (H1.ext E1)
  have f6 : Fld Z h1 sb cAS "coder" "B" (.int 0) := (H2.ext E1)
  have f7 : Fld Z h1 sb cAS "count" "I" (.int 1) := (H3.ext E1)
  have f8 : Fld Z h1 sb cAS "maybeLatin1" "Z" (.int ml) := (H4.ext E1)
  have f9 : Arv Z h1 va kv .byte (16 : Int32) [(.int u0), (.int u1)] (.int (0 : Int32)) := (H5.ext E1)
  have oe10 : Old Z n0 h1 := (Old.ext O0 E1)
  obtain ⟨_, _, ⟨T11, L11, kk11, nn11⟩, -, X11, ⟨Lc11, hQ11, lq11, yq11, zq11⟩, st11⟩ := X1.specialBack hx (y := mn5) rfl hown (mvT hZ (w44 hw)) (mvT hZ (w45 hw)) (mvT hZ (w47 hw)) (by decide) (backOf (W := 1) (rm_strsb1 l Z a0 hw [] b1 sb va kv u0 u1 ml G1 h1 n0 (Nat.le_trans Z0 E1.1) A1 f3 f2 g_b1 f4 f5 f6 f7 f8 f9 CS CSn oe10) hZ (w47 hw) (w24 hw) (by decide) (by decide)) (g := (mkF m 5 #[rv sb] [(.ref sb), (.ref b1), (.ref b1)])) rfl (by rw [hml]; rfl) (Steps.refl _) (a := b1) (argsL := [(.ref sb)]) (rest := [(.ref b1)]) (lenOf pd_9 rfl) rfl (by show 2 * 0 + _ ≤ _; exact Nat.le_of_eq rfl) (hb hby d4_5) (fun _ _ => ⟨rfl, e1, (by decide : 1 + 1 ≤ _), (by decide : 4 + 1 ≤ _)⟩)
  dsimp only [Pt.U, Pt.locs, Pt.cells, Pt.slots] at X11 lq11 yq11 zq11 st11 hQ11
  subst lq11 yq11 zq11
  obtain ⟨h11, e11⟩ : ∃ z, T11.heap = z := ⟨_, rfl⟩
  rw [e11] at hQ11
  obtain ⟨ta_11, kt_11, rfl, N11q, K11, gf11_0, lf11_0, p11_1, p11_2, p11_3, p11_4⟩ := hQ11
  have N11 := Fr.app N0 N11q
  refine go_tr st11 ?_
  show Go _ _ _ _ (T11.setTop (mkF m 8 #[rv sb] [(.ref b1)]))
  have ke12 : Keep h0 h1 [] := (Keep.ext (Keep.refl h0 []) E1)
  have ke13 : Keep h0 h11 [] := (Keep.trans ke12 K11 (allS (Or.inr (Nat.le_of_eq gq1.symm)) all0))
  obtain ⟨fs, hr, hrun, hended, hW, hsame⟩ := X11.leave (v := some (.ref b1)) (fun h => by rw [Bd.returns] at h; cases h)
  refine ⟨_, _, ?_, hrun, hended, _, _, rfl, ?_, ⟨_, rfl⟩, hW, hsame.mono (by decide) (by decide)⟩
  · exact retOut X11 hx Bd.returns rfl (Or.inr (Or.inr (Or.inr (Or.inr ⟨rfl, rfl, rfl⟩)))) (hb hby d4_8) hr
  · show Q_tos1 _ _ _ _ _ _ _ _ _ _ _ T11.heap _
    rw [e11]
    exact ⟨b1, ta_11, kt_11, rfl, N11, ke13, g_b1, (Nat.le_of_eq gq1.symm), gf11_0, (Nat.le_trans E1.1 lf11_0), p11_1, p11_2, p11_3, p11_4⟩
def Q_asbset1 (Z : State) (sb : Addr) (va : Addr) (kv : ClassId) (u0 : Int32) (u1 : Int32) (ml : Int32) (G1 : Int32) (h0 : Heap) (n0 : Nat) (vR : Option Value) (h : Heap) (L : List Loc) : Prop := vR = none ∧ Fr n0 L ∧ Keep h0 h [sb] ∧ (Exa Z h sb cSB) ∧ (Fld Z h sb cAS "value" "[B" (.ref va)) ∧ (Fld Z h sb cAS "coder" "B" (.int 0)) ∧ (Fld Z h sb cAS "count" "I" (.int 0)) ∧ (Fld Z h sb cAS "maybeLatin1" "Z" (.int 1))
theorem ef_asbset1 (m : MethodId) (x0 : Addr) (x1 : Int32) : entryFrame m #[(.ref x0), (.int x1)] 2 = mkF m 0 #[.val (.ref x0), .val (.int x1)] [] := by first | (simp [entryFrame, mkF, argsToLocals, Value.category]; done) | rfl
set_option maxRecDepth 65536 in
set_option maxHeartbeats 40000000 in
theorem rm_asbset1 (l : Launch) (Z : State) (a0 : Array Value) (hw : ∀ d ∈ tables_1, d.before a0 Z = true) (ws : List Jvm.Cond) (sb : Addr) (va : Addr) (kv : ClassId) (u0 : Int32) (u1 : Int32) (ml : Int32) (G1 : Int32) (h0 : Heap) (n0 : Nat) (Z0 : n0 ≤ h0.size) (H0 : Exa Z h0 sb cSB) (H1 : Fld Z h0 sb cAS "value" "[B" (.ref va)) (H2 : Fld Z h0 sb cAS "coder" "B" (.int 0)) (H3 : Fld Z h0 sb cAS "count" "I" (.int 1)) (H4 : Fld Z h0 sb cAS "maybeLatin1" "Z" (.int ml)) (H5 : Arv Z h0 va kv .byte (16 : Int32) [(.int u0), (.int u1)] (.int (0 : Int32))) (g_sb : n0 ≤ sb) (CS : Sta Z Z.heap "java/lang/String" "COMPACT_STRINGS" "Z" (.int G1)) (CSn : ¬ (G1 = (0 : Int32))) (O0 : Old Z n0 h0) :
    MetFree l mn16 (head1 (Jvm.Cond.code mn16 jdk_68_method_13_code 2 none :: ws) ({ frames := 1, cells := 0, slots := 0, locals := 14 } : Room)) (fun a U => a = #[(.ref sb), (.int 0)] ∧ Z.Warmed39 U.vm ∧ U.heap = h0) (fun _ _ _ _ _ => True) (fun _ U o U' => ∃ v L, o = .returned v ∧ Q_asbset1 Z sb va kv u0 u1 ml G1 h0 n0 v U'.heap L ∧ FrameEnd U o U' L ({ frames := 1, cells := 0, slots := 0, locals := 14 } : Room).cells ({ frames := 1, cells := 0, slots := 0, locals := 14 } : Room).slots) := by
  refine MetFree.of_bodySF (plainFor_of_name pn_java_lang_AbstractStringBuilder) hisR ?_
  intro p e s m args below meth c s₁ Bd hml0 hP hK
  obtain ⟨rfl, hZ, hh⟩ := hP
  have hx := Bd.exec
  have hby := Bd.bytes
  have hml : c.maxLocals = 2 := hml0
  have hown : s.vm.findClass "java/lang/AbstractStringBuilder" = some m.cls := findClass_of_methodNamed Bd.named
  have hnm := (name_of_methodNamed Bd.named Bd.method).1
  have X0 : Stand p l e ({ frames := 1, cells := 0, slots := 0, locals := 14 } : Room) s m #[(.ref sb), (.int 0)] below meth c s₁ [] 0 0 := Stand.of_body Bd
  have e0 : s₁.heap = h0 := by rw [← hh, Bd.state]; rfl
  have N0 := Fr.nil n0
  refine go_st (fun t k => castTop (ef_asbset1 m sb (0 : Int32)) k) ?_
  show Go _ _ _ _ (s₁.setTop (mkF m 0 #[rv sb, iv 0] []))
  refine go_st (fun t k => XS.iloadN X0.here hx rfl (hb hby d16_0) rfl k) ?_
  show Go _ _ _ _ (s₁.setTop (mkF m 1 #[rv sb, iv 0] [(.int 0)]))
  refine go_st (fun t k => XS.ifYes X0.here hx rfl (pc0 := 1) (pc' := 13) rfl (hb hby d16_1) rfl ((if0 _ _).trans (flt ((by decide) : ¬ ((0 : Int32) < (0 : Int32)))).2.1) (by decide) (by decide) k) ?_
  show Go _ _ _ _ (s₁.setTop (mkF m 13 #[rv sb, iv 0] []))
  refine go_st (fun t k => XS.aloadN X0.here hx rfl (hb hby d16_13) rfl rfl k) ?_
  refine go_st (fun t k => XS.iloadN X0.here hx rfl (hb hby d16_14) rfl k) ?_
  show Go _ _ _ _ (s₁.setTop (mkF m 15 #[rv sb, iv 0] [(.int 0), (.ref sb)]))
  obtain ⟨cq1, q1, q1'⟩ := H0.cell
  obtain ⟨_, _, ⟨T1, L1, kk1, nn1⟩, -, X1, ⟨Lc1, hQ1, lq1, yq1, zq1⟩, st1⟩ := X0.privateBack hx (y := mn17) hown (mvT hZ (w104 hw)) (mvT hZ (w105 hw)) (mvT hZ (sel_priv (w106 hw) (w105 hw) (nf_same (y := mn17) (y' := mn7) rfl (w54 hw) (notFace_of_selects (w55 hw))) (by decide))) (Cond.privateMethod_at (mvP hZ (w106 hw) (args := #[]))) (mvT hZ (w108 hw)) (by decide) (backOf (W := 0) (rm_ens0 l Z a0 hw [] sb va kv u0 u1 h0 n0 (Nat.le_trans Z0 (Nat.le_refl _)) H1 H2 H5) hZ (w108 hw) (w20 hw) (by decide) (by decide)) (g := (mkF m 15 #[rv sb, iv 0] [(.int 0), (.ref sb)])) rfl (by rw [hml]; rfl) (Steps.refl _) (a := sb) (by rw [e0]; exact q1) q1' (argsL := [(.int 0)]) (rest := []) (lenOf pd_0 rfl) rfl (by show 2 * 0 + _ ≤ _; exact Nat.le_of_eq rfl) (hb hby d16_15) (fun _ _ => ⟨rfl, e0, (by decide : 0 + 0 ≤ _), (by decide : 0 + 0 ≤ _)⟩)
  dsimp only [Pt.U, Pt.locs, Pt.cells, Pt.slots] at X1 lq1 yq1 zq1 st1 hQ1
  subst lq1 yq1 zq1
  obtain ⟨h1, e1⟩ : ∃ z, T1.heap = z := ⟨_, rfl⟩
  rw [e1] at hQ1
  obtain ⟨rfl, N1q, he1⟩ := hQ1
  have N1 := Fr.app N0 N1q
  rw [he1] at e1
  refine go_tr st1 ?_
  refine go_st (fun t k => XS.aloadN X1.here hx rfl (hb hby d16_18) rfl rfl k) ?_
  show Go _ _ _ _ (T1.setTop (mkF m 19 #[rv sb, iv 0] [(.ref sb)]))
  obtain ⟨T2, X2, e2, st2⟩ := getF X1 hx hZ hown (host := "") (Or.inl (w66 hw)) Via.refl e1 H3 (g := (mkF m 19 #[rv sb, iv 0] [(.ref sb)])) rfl rfl (hb hby d16_19)
  refine go_st (fun t k => st2 t k) ?_
  refine go_st (fun t k => XS.iloadN X2.here hx rfl (hb hby d16_22) rfl k) ?_
  show Go _ _ _ _ (T2.setTop (mkF m 23 #[rv sb, iv 0] [(.int 0), (.int 1)]))
  refine go_st (fun t k => XS.icmpYes X2.here hx rfl (pc0 := 23) (pc' := 63) rfl (hb hby d16_23) rfl (flt ((by decide) : ¬ ((1 : Int32) < (0 : Int32)))).2.1 (by decide) (by decide) k) ?_
  show Go _ _ _ _ (T2.setTop (mkF m 63 #[rv sb, iv 0] []))
  refine go_st (fun t k => XS.aloadN X2.here hx rfl (hb hby d16_63) rfl rfl k) ?_
  show Go _ _ _ _ (T2.setTop (mkF m 64 #[rv sb, iv 0] [(.ref sb)]))
  obtain ⟨T3, X3, e3, st3⟩ := getF X2 hx hZ hown (host := "") (Or.inl (w66 hw)) Via.refl e2 H3 (g := (mkF m 64 #[rv sb, iv 0] [(.ref sb)])) rfl rfl (hb hby d16_64)
  refine go_st (fun t k => st3 t k) ?_
  refine go_st (fun t k => XS.iloadN X3.here hx rfl (hb hby d16_67) rfl k) ?_
  show Go _ _ _ _ (T3.setTop (mkF m 68 #[rv sb, iv 0] [(.int 0), (.int 1)]))
  refine go_st (fun t k => XS.icmpNo X3.here hx rfl (hb hby d16_68) rfl (tlt ((by decide) : (0 : Int32) < (1 : Int32))).2.2.2 k) ?_
  show Go _ _ _ _ (T3.setTop (mkF m 71 #[rv sb, iv 0] []))
  refine go_st (fun t k => XS.aloadN X3.here hx rfl (hb hby d16_71) rfl rfl k) ?_
  refine go_st (fun t k => XS.iconst X3.here hx rfl (hb hby d16_72) k) ?_
  show Go _ _ _ _ (T3.setTop (mkF m 73 #[rv sb, iv 0] [(.int 1), (.ref sb)]))
  obtain ⟨T4, h4, X4, e4, W4, st4⟩ := putFN X3 hx hZ hown (w138 hw) Via.refl e3 H4 H0 (Or.inl (w139 hw)) (w11 hw) (ty := .boolean) (v' := (.int 1)) (by decide) rfl rfl (g := (mkF m 73 #[rv sb, iv 0] [(.int 1), (.ref sb)])) rfl rfl (hb hby d16_73)
  have N4 := Fr.snoc X4 N1 g_sb
  have f5 : Fld Z h4 sb cAS "maybeLatin1" "Z" (.int 1) := H4.same W4
  refine go_st (fun t k => st4 t k) ?_
  refine go_st (fun t k => XS.aloadN X4.here hx rfl (hb hby d16_76) rfl rfl k) ?_
  refine go_st (fun t k => XS.iloadN X4.here hx rfl (hb hby d16_77) rfl k) ?_
  show Go _ _ _ _ (T4.setTop (mkF m 78 #[rv sb, iv 0] [(.int 0), (.ref sb)]))
  have f6 : Fld Z h4 sb cAS "count" "I" (.int 1) := (H3.other W4 (Or.inr (slot_ne (Or.inl (w67 hw)) (Or.inl (w139 hw)) (by decide) (t := .int) (t' := .boolean) (by decide) (by decide))))
  have f7 : Exa Z h4 sb cSB := (H0.wr W4)
  obtain ⟨T8, h8, X8, e8, W8, st8⟩ := putF X4 hx hZ hown (host := "") (Or.inl (w66 hw)) Via.refl e4 f6 f7 (Or.inl (w67 hw)) (w11 hw) (ty := .int) (by decide) rfl rfl (g := (mkF m 78 #[rv sb, iv 0] [(.int 0), (.ref sb)])) rfl rfl (hb hby d16_78)
  have N8 := Fr.snoc X8 N4 g_sb
  have f9 : Fld Z h8 sb cAS "count" "I" (.int 0) := f6.same W8
  refine go_st (fun t k => st8 t k) ?_
  show Go _ _ _ _ (T8.setTop (mkF m 81 #[rv sb, iv 0] []))
  have f10 : Exa Z h8 sb cSB := (f7.wr W8)
  have f11 : Fld Z h8 sb cAS "value" "[B" (.ref va) := ((H1.other W4 (Or.inr (slot_ne (Or.inl (w27 hw)) (Or.inl (w139 hw)) (by decide) (t := (.array .byte)) (t' := .boolean) (by decide) (by decide)))).other W8 (Or.inr (slot_ne (Or.inl (w27 hw)) (Or.inl (w67 hw)) (by decide) (t := (.array .byte)) (t' := .int) (by decide) (by decide))))
  have f12 : Fld Z h8 sb cAS "coder" "B" (.int 0) := ((H2.other W4 (Or.inr (slot_ne (Or.inl (w29 hw)) (Or.inl (w139 hw)) (by decide) (t := .byte) (t' := .boolean) (by decide) (by decide)))).other W8 (Or.inr (slot_ne (Or.inl (w29 hw)) (Or.inl (w67 hw)) (by decide) (t := .byte) (t' := .int) (by decide) (by decide))))
  have f13 : Fld Z h8 sb cAS "maybeLatin1" "Z" (.int 1) := (f5.other W8 (Or.inr (slot_ne (Or.inl (w139 hw)) (Or.inl (w67 hw)) (by decide) (t := .boolean) (t' := .int) (by decide) (by decide))))
  have ke14 : Keep h0 h4 [sb] := (Keep.wr (Keep.refl h0 [sb]) W4 (Or.inl (List.mem_of_getElem? (i := 0) rfl)))
  have ke15 : Keep h0 h8 [sb] := (Keep.wr ke14 W8 (Or.inl (List.mem_of_getElem? (i := 0) rfl)))
  obtain ⟨fs, hr, hrun, hended, hW, hsame⟩ := X8.leave (v := none) (fun _ => rfl)
  refine ⟨_, _, ?_, hrun, hended, _, _, rfl, ?_, ⟨_, rfl⟩, hW, hsame.mono (by decide) (by decide)⟩
  · exact X8.returnOut hx Bd.returns (hb hby d16_81) hr
  · show Q_asbset1 _ _ _ _ _ _ _ _ _ _ _ T8.heap _
    rw [e8]
    exact ⟨rfl, N8, ke15, f10, f11, f12, f9, f13⟩
def Q_sbset1 (Z : State) (sb : Addr) (va : Addr) (kv : ClassId) (u0 : Int32) (u1 : Int32) (ml : Int32) (G1 : Int32) (h0 : Heap) (n0 : Nat) (vR : Option Value) (h : Heap) (L : List Loc) : Prop := vR = none ∧ Fr n0 L ∧ Keep h0 h [sb] ∧ (Exa Z h sb cSB) ∧ (Fld Z h sb cAS "value" "[B" (.ref va)) ∧ (Fld Z h sb cAS "coder" "B" (.int 0)) ∧ (Fld Z h sb cAS "count" "I" (.int 0)) ∧ (Fld Z h sb cAS "maybeLatin1" "Z" (.int 1))
theorem ef_sbset1 (m : MethodId) (x0 : Addr) (x1 : Int32) : entryFrame m #[(.ref x0), (.int x1)] 2 = mkF m 0 #[.val (.ref x0), .val (.int x1)] [] := by first | (simp [entryFrame, mkF, argsToLocals, Value.category]; done) | rfl
set_option maxRecDepth 65536 in
set_option maxHeartbeats 40000000 in
theorem rm_sbset1 (l : Launch) (Z : State) (a0 : Array Value) (hw : ∀ d ∈ tables_1, d.before a0 Z = true) (ws : List Jvm.Cond) (sb : Addr) (va : Addr) (kv : ClassId) (u0 : Int32) (u1 : Int32) (ml : Int32) (G1 : Int32) (h0 : Heap) (n0 : Nat) (Z0 : n0 ≤ h0.size) (H0 : Exa Z h0 sb cSB) (H1 : Fld Z h0 sb cAS "value" "[B" (.ref va)) (H2 : Fld Z h0 sb cAS "coder" "B" (.int 0)) (H3 : Fld Z h0 sb cAS "count" "I" (.int 1)) (H4 : Fld Z h0 sb cAS "maybeLatin1" "Z" (.int ml)) (H5 : Arv Z h0 va kv .byte (16 : Int32) [(.int u0), (.int u1)] (.int (0 : Int32))) (g_sb : n0 ≤ sb) (CS : Sta Z Z.heap "java/lang/String" "COMPACT_STRINGS" "Z" (.int G1)) (CSn : ¬ (G1 = (0 : Int32))) (O0 : Old Z n0 h0) :
    MetFree l mn15 (head1 (Jvm.Cond.code mn15 jdk_67_method_89_code 2 none :: ws) ({ frames := 2, cells := 0, slots := 0, locals := 27 } : Room)) (fun a U => a = #[(.ref sb), (.int 0)] ∧ Z.Warmed39 U.vm ∧ U.heap = h0) (fun _ _ _ _ _ => True) (fun _ U o U' => ∃ v L, o = .returned v ∧ Q_sbset1 Z sb va kv u0 u1 ml G1 h0 n0 v U'.heap L ∧ FrameEnd U o U' L ({ frames := 2, cells := 0, slots := 0, locals := 27 } : Room).cells ({ frames := 2, cells := 0, slots := 0, locals := 27 } : Room).slots) := by
  refine MetFree.of_bodySF (plainFor_of_name pn_java_lang_StringBuilder) hisR ?_
  intro p e s m args below meth c s₁ Bd hml0 hP hK
  obtain ⟨rfl, hZ, hh⟩ := hP
  have hx := Bd.exec
  have hby := Bd.bytes
  have hml : c.maxLocals = 2 := hml0
  have hown : s.vm.findClass "java/lang/StringBuilder" = some m.cls := findClass_of_methodNamed Bd.named
  have hnm := (name_of_methodNamed Bd.named Bd.method).1
  have X0 : Stand p l e ({ frames := 2, cells := 0, slots := 0, locals := 27 } : Room) s m #[(.ref sb), (.int 0)] below meth c s₁ [] 0 0 := Stand.of_body Bd
  have e0 : s₁.heap = h0 := by rw [← hh, Bd.state]; rfl
  have N0 := Fr.nil n0
  refine go_st (fun t k => castTop (ef_sbset1 m sb (0 : Int32)) k) ?_
  show Go _ _ _ _ (s₁.setTop (mkF m 0 #[rv sb, iv 0] []))
  refine go_st (fun t k => XS.aloadN X0.here hx rfl (hb hby d15_0) rfl rfl k) ?_
  refine go_st (fun t k => XS.iloadN X0.here hx rfl (hb hby d15_1) rfl k) ?_
  show Go _ _ _ _ (s₁.setTop (mkF m 2 #[rv sb, iv 0] [(.int 0), (.ref sb)]))
  obtain ⟨_, _, ⟨T1, L1, kk1, nn1⟩, -, X1, ⟨Lc1, hQ1, lq1, yq1, zq1⟩, st1⟩ := superBack X0 hx hZ (y := mn16) hown (w100 hw) (same_self (w101 hw) (nf_same (y := mn16) (y' := mn7) rfl (w54 hw) (notFace_of_selects (w55 hw))) (by decide)) (w101 hw) (w64 hw) (by decide) (backOf (W := 0) (rm_asbset1 l Z a0 hw [] sb va kv u0 u1 ml G1 h0 n0 (Nat.le_trans Z0 (Nat.le_refl _)) H0 H1 H2 H3 H4 H5 g_sb CS CSn O0) hZ (w103 hw) (w20 hw) (by decide) (by decide)) e0 (a := sb) (Ins.self H0) (g := (mkF m 2 #[rv sb, iv 0] [(.int 0), (.ref sb)])) rfl (by rw [hml]; rfl) (w103 hw) (argsL := [(.int 0)]) (rest := []) (lenOf pd_0 rfl) rfl (by show 2 * 0 + _ ≤ _; exact Nat.le_of_eq rfl) (hb hby d15_2) (fun _ _ => ⟨rfl, e0, (by decide : 0 + 0 ≤ _), (by decide : 0 + 0 ≤ _)⟩)
  dsimp only [Pt.U, Pt.locs, Pt.cells, Pt.slots] at X1 lq1 yq1 zq1 st1 hQ1
  subst lq1 yq1 zq1
  obtain ⟨h1, e1⟩ : ∃ z, T1.heap = z := ⟨_, rfl⟩
  rw [e1] at hQ1
  obtain ⟨rfl, N1q, K1, p1_0, p1_1, p1_2, p1_3, p1_4⟩ := hQ1
  have N1 := Fr.app N0 N1q
  refine go_tr st1 ?_
  show Go _ _ _ _ (T1.setTop (mkF m 5 #[rv sb, iv 0] []))
  have ke2 : Keep h0 h1 [sb] := (Keep.trans (Keep.refl h0 [sb]) K1 (allS (Or.inl (List.mem_of_getElem? (i := 0) rfl)) all0))
  obtain ⟨fs, hr, hrun, hended, hW, hsame⟩ := X1.leave (v := none) (fun _ => rfl)
  refine ⟨_, _, ?_, hrun, hended, _, _, rfl, ?_, ⟨_, rfl⟩, hW, hsame.mono (by decide) (by decide)⟩
  · exact X1.returnOut hx Bd.returns (hb hby d15_5) hr
  · show Q_sbset1 _ _ _ _ _ _ _ _ _ _ _ T1.heap _
    rw [e1]
    exact ⟨rfl, N1, ke2, p1_0, p1_1, p1_2, p1_3, p1_4⟩
def Q_drain1 (Z : State) (jw : Addr) (sb : Addr) (va : Addr) (kv : ClassId) (u0 : Int32) (u1 : Int32) (ml : Int32) (G1 : Int32) (h0 : Heap) (n0 : Nat) (vR : Option Value) (h : Heap) (L : List Loc) : Prop := ∃ (sa : Addr) (ta : Addr) (kt : ClassId), vR = some (.ref sa) ∧ Fr n0 L ∧ Keep h0 h [sb] ∧ n0 ≤ sa ∧ h0.size ≤ sa ∧ n0 ≤ ta ∧ h0.size ≤ ta ∧ (Exa Z h sa cST) ∧ (Fld Z h sa cST "value" "[B" (.ref ta)) ∧ (Fld Z h sa cST "coder" "B" (.int 0)) ∧ (Arv Z h ta kt .byte (1 : Int32) [(.int u0)] (.int (0 : Int32))) ∧ (Exa Z h sb cSB) ∧ (Fld Z h sb cAS "value" "[B" (.ref va)) ∧ (Fld Z h sb cAS "coder" "B" (.int 0)) ∧ (Fld Z h sb cAS "count" "I" (.int 0)) ∧ (Fld Z h sb cAS "maybeLatin1" "Z" (.int 1))
theorem ef_drain1 (m : MethodId) (x0 : Addr) : entryFrame m #[(.ref x0)] 2 = mkF m 0 #[.val (.ref x0), .unset] [] := by first | (simp [entryFrame, mkF, argsToLocals, Value.category]; done) | rfl
set_option maxRecDepth 65536 in
set_option maxHeartbeats 40000000 in
theorem rm_drain1 (l : Launch) (Z : State) (a0 : Array Value) (hw : ∀ d ∈ tables_1, d.before a0 Z = true) (ws : List Jvm.Cond) (jw : Addr) (sb : Addr) (va : Addr) (kv : ClassId) (u0 : Int32) (u1 : Int32) (ml : Int32) (G1 : Int32) (h0 : Heap) (n0 : Nat) (Z0 : n0 ≤ h0.size) (H0 : Exa Z h0 jw cJW) (H1 : Fld Z h0 jw cJW "text" "Ljava/lang/StringBuilder;" (.ref sb)) (H2 : Exa Z h0 sb cSB) (H3 : Fld Z h0 sb cAS "value" "[B" (.ref va)) (H4 : Fld Z h0 sb cAS "coder" "B" (.int 0)) (H5 : Fld Z h0 sb cAS "count" "I" (.int 1)) (H6 : Fld Z h0 sb cAS "maybeLatin1" "Z" (.int ml)) (H7 : Arv Z h0 va kv .byte (16 : Int32) [(.int u0), (.int u1)] (.int (0 : Int32))) (g_sb : n0 ≤ sb) (CS : Sta Z Z.heap "java/lang/String" "COMPACT_STRINGS" "Z" (.int G1)) (CSn : ¬ (G1 = (0 : Int32))) (O0 : Old Z n0 h0) :
    MetFree l mn3 (head1 (Jvm.Cond.code mn3 prog_33_method_10_code 2 (some (.object "java/lang/String")) :: ws) ({ frames := 6, cells := 2, slots := 5, locals := 91 } : Room)) (fun a U => a = #[(.ref jw)] ∧ Z.Warmed39 U.vm ∧ U.heap = h0) (fun _ _ _ _ _ => True) (fun _ U o U' => ∃ v L, o = .returned v ∧ Q_drain1 Z jw sb va kv u0 u1 ml G1 h0 n0 v U'.heap L ∧ FrameEnd U o U' L ({ frames := 6, cells := 2, slots := 5, locals := 91 } : Room).cells ({ frames := 6, cells := 2, slots := 5, locals := 91 } : Room).slots) := by
  refine MetFree.of_bodySF (plainFor_of_name pn_com_example_adjoinery_adjoinery_JsonWriter) hisR ?_
  intro p e s m args below meth c s₁ Bd hml0 hP hK
  obtain ⟨rfl, hZ, hh⟩ := hP
  have hx := Bd.exec
  have hby := Bd.bytes
  have hml : c.maxLocals = 2 := hml0
  have hown : s.vm.findClass "com/example/adjoinery/adjoinery/JsonWriter" = some m.cls := findClass_of_methodNamed Bd.named
  have hnm := (name_of_methodNamed Bd.named Bd.method).1
  have X0 : Stand p l e ({ frames := 6, cells := 2, slots := 5, locals := 91 } : Room) s m #[(.ref jw)] below meth c s₁ [] 0 0 := Stand.of_body Bd
  have e0 : s₁.heap = h0 := by rw [← hh, Bd.state]; rfl
  have N0 := Fr.nil n0
  refine go_st (fun t k => castTop (ef_drain1 m jw) k) ?_
  show Go _ _ _ _ (s₁.setTop (mkF m 0 #[rv jw, .unset] []))
  refine go_st (fun t k => XS.aloadN X0.here hx rfl (hb hby d3_0) rfl rfl k) ?_
  show Go _ _ _ _ (s₁.setTop (mkF m 1 #[rv jw, .unset] [(.ref jw)]))
  obtain ⟨T1, X1, e1, st1⟩ := getF X0 hx hZ hown (host := "") (Or.inl (w30 hw)) Via.refl e0 H1 (g := (mkF m 1 #[rv jw, .unset] [(.ref jw)])) rfl rfl (hb hby d3_1)
  refine go_st (fun t k => st1 t k) ?_
  show Go _ _ _ _ (T1.setTop (mkF m 4 #[rv jw, .unset] [(.ref sb)]))
  obtain ⟨cq2, kq2, q2a, q2b, q2c⟩ := isOf hZ e1 H2
  obtain ⟨_, _, ⟨T2, L2, kk2, nn2⟩, -, X2, ⟨Lc2, hQ2, lq2, yq2, zq2⟩, st2⟩ := X1.virtualBack hx (y := mn4) (z := mn4) hown (mvT hZ (w37 hw)) (mvT hZ (w38 hw)) (notFace_of_selects (args := #[]) (mvT hZ (w40 hw))) (mvT hZ (w40 hw)) (mvT hZ (w39 hw)) (by decide) (backOf (W := 0) (rm_tos1 l Z a0 hw [] sb va kv u0 u1 ml G1 h0 n0 (Nat.le_trans Z0 (Nat.le_refl _)) H2 H3 H4 H5 H6 H7 CS CSn O0) hZ (w41 hw) (w12 hw) (by decide) (by decide)) q2a q2c (g := (mkF m 4 #[rv jw, .unset] [(.ref sb)])) rfl (by rw [hml]; rfl) (Steps.refl _) (argsL := []) (rest := []) (lenOf pd_10 rfl) rfl (by show 2 * 0 + _ ≤ _; exact Nat.le_of_eq rfl) (hb hby d3_4) (fun _ _ => ⟨rfl, e1, (by decide : 0 + 2 ≤ _), (by decide : 0 + 5 ≤ _)⟩)
  dsimp only [Pt.U, Pt.locs, Pt.cells, Pt.slots] at X2 lq2 yq2 zq2 st2 hQ2
  subst lq2 yq2 zq2
  obtain ⟨h2, e2⟩ : ∃ z, T2.heap = z := ⟨_, rfl⟩
  rw [e2] at hQ2
  obtain ⟨sa_2, ta_2, kt_2, rfl, N2q, K2, gf2_0, lf2_0, gf2_1, lf2_1, p2_2, p2_3, p2_4, p2_5⟩ := hQ2
  have N2 := Fr.app N0 N2q
  refine go_tr st2 ?_
  refine go_st (fun t k => XS.astoreN X2.here hx rfl (hb hby d3_7) rfl rfl (l' := #[rv jw, rv sa_2]) rfl k) ?_
  refine go_st (fun t k => XS.aloadN X2.here hx rfl (hb hby d3_8) rfl rfl k) ?_
  show Go _ _ _ _ (T2.setTop (mkF m 9 #[rv jw, rv sa_2] [(.ref jw)]))
  have f3 : Fld Z h2 jw cJW "text" "Ljava/lang/StringBuilder;" (.ref sb) := (H1.keep K2 nin0)
  obtain ⟨T4, X4, e4, st4⟩ := getF X2 hx hZ hown (host := "") (Or.inl (w30 hw)) Via.refl e2 f3 (g := (mkF m 9 #[rv jw, rv sa_2] [(.ref jw)])) rfl rfl (hb hby d3_9)
  refine go_st (fun t k => st4 t k) ?_
  refine go_st (fun t k => XS.iconst X4.here hx rfl (hb hby d3_12) k) ?_
  show Go _ _ _ _ (T4.setTop (mkF m 13 #[rv jw, rv sa_2] [(.int 0), (.ref sb)]))
  have f5 : Exa Z h2 sb cSB := (H2.keep K2)
  have f6 : Fld Z h2 sb cAS "value" "[B" (.ref va) := (H3.keep K2 nin0)
  have f7 : Fld Z h2 sb cAS "coder" "B" (.int 0) := (H4.keep K2 nin0)
  have f8 : Fld Z h2 sb cAS "count" "I" (.int 1) := (H5.keep K2 nin0)
  have f9 : Fld Z h2 sb cAS "maybeLatin1" "Z" (.int ml) := (H6.keep K2 nin0)
  have f10 : Arv Z h2 va kv .byte (16 : Int32) [(.int u0), (.int u1)] (.int (0 : Int32)) := (H7.keep K2 nin0)
  have oe11 : Old Z n0 h2 := (Old.keep O0 K2 all0)
  obtain ⟨cq12, kq12, q12a, q12b, q12c⟩ := isOf hZ e4 f5
  obtain ⟨_, _, ⟨T12, L12, kk12, nn12⟩, -, X12, ⟨Lc12, hQ12, lq12, yq12, zq12⟩, st12⟩ := X4.virtualBack hx (y := mn15) (z := mn15) hown (mvT hZ (w95 hw)) (mvT hZ (w96 hw)) (nf_same (y := mn15) (y' := mn4) (a0 := #[]) rfl (mvT hZ (w39 hw)) (notFace_of_selects (args := #[]) (mvT hZ (w40 hw)))) (mvT hZ (w98 hw)) (mvT hZ (w97 hw)) (by decide) (backOf (W := 0) (rm_sbset1 l Z a0 hw [] sb va kv u0 u1 ml G1 h2 n0 (Nat.le_trans Z0 K2.1) f5 f6 f7 f8 f9 f10 g_sb CS CSn oe11) hZ (w99 hw) (w12 hw) (by decide) (by decide)) q12a q12c (g := (mkF m 13 #[rv jw, rv sa_2] [(.int 0), (.ref sb)])) rfl (by rw [hml]; rfl) (Steps.refl _) (argsL := [(.int 0)]) (rest := []) (lenOf pd_0 rfl) rfl (by show 2 * 0 + _ ≤ _; exact Nat.le_of_eq rfl) (hb hby d3_13) (fun _ _ => ⟨rfl, e4, (by decide : 2 + 0 ≤ _), (by decide : 5 + 0 ≤ _)⟩)
  dsimp only [Pt.U, Pt.locs, Pt.cells, Pt.slots] at X12 lq12 yq12 zq12 st12 hQ12
  subst lq12 yq12 zq12
  obtain ⟨h12, e12⟩ : ∃ z, T12.heap = z := ⟨_, rfl⟩
  rw [e12] at hQ12
  obtain ⟨rfl, N12q, K12, p12_0, p12_1, p12_2, p12_3, p12_4⟩ := hQ12
  have N12 := Fr.app N2 N12q
  refine go_tr st12 ?_
  refine go_st (fun t k => XS.aloadN X12.here hx rfl (hb hby d3_16) rfl rfl k) ?_
  show Go _ _ _ _ (T12.setTop (mkF m 17 #[rv jw, rv sa_2] [(.ref sa_2)]))
  have f13 : Exa Z h12 sa_2 cST := (p2_2.keep K12)
  have nq14 : sb ≠ sa_2 := Nat.ne_of_lt (Nat.lt_of_lt_of_le (Nat.lt_of_lt_of_le H2.lt (Nat.le_refl _)) lf2_0)
  have f15 : Fld Z h12 sa_2 cST "value" "[B" (.ref ta_2) := (p2_3.keep K12 (ninS (Ne.symm nq14) nin0))
  have f16 : Fld Z h12 sa_2 cST "coder" "B" (.int 0) := (p2_4.keep K12 (ninS (Ne.symm nq14) nin0))
  have nq17 : sb ≠ ta_2 := Nat.ne_of_lt (Nat.lt_of_lt_of_le (Nat.lt_of_lt_of_le H2.lt (Nat.le_refl _)) lf2_1)
  have f18 : Arv Z h12 ta_2 kt_2 .byte (1 : Int32) [(.int u0)] (.int (0 : Int32)) := (p2_5.keep K12 (ninS (Ne.symm nq17) nin0))
  have ke19 : Keep h0 h2 [sb] := (Keep.trans (Keep.refl h0 [sb]) K2 all0)
  have ke20 : Keep h0 h12 [sb] := (Keep.trans ke19 K12 (allS (Or.inl (List.mem_of_getElem? (i := 0) rfl)) all0))
  obtain ⟨fs, hr, hrun, hended, hW, hsame⟩ := X12.leave (v := some (.ref sa_2)) (fun h => by rw [Bd.returns] at h; cases h)
  refine ⟨_, _, ?_, hrun, hended, _, _, rfl, ?_, ⟨_, rfl⟩, hW, hsame.mono (by decide) (by decide)⟩
  · exact retOut X12 hx Bd.returns rfl (Or.inr (Or.inr (Or.inr (Or.inr ⟨rfl, rfl, rfl⟩)))) (hb hby d3_17) hr
  · show Q_drain1 _ _ _ _ _ _ _ _ _ _ _ _ T12.heap _
    rw [e12]
    exact ⟨sa_2, ta_2, kt_2, rfl, N12, ke20, gf2_0, lf2_0, gf2_1, lf2_1, f13, f15, f16, f18, p12_0, p12_1, p12_2, p12_3, p12_4⟩
def Q_close (Z : State) (jw : Addr) (av : Int32) (sb : Addr) (va : Addr) (kv : ClassId) (u0 : Int32) (u1 : Int32) (ml : Int32) (ch : Int32) (G1 : Int32) (h0 : Heap) (n0 : Nat) (vR : Option Value) (h : Heap) (L : List Loc) : Prop := vR = some (.ref jw) ∧ Fr n0 L ∧ Keep h0 h [sb, va, jw] ∧ (Exa Z h jw cJW) ∧ (Fld Z h jw cJW "text" "Ljava/lang/StringBuilder;" (.ref sb)) ∧ (Fld Z h jw cJW "afterValue" "Z" (.int 1)) ∧ (Exa Z h sb cSB) ∧ (Fld Z h sb cAS "value" "[B" (.ref va)) ∧ (Fld Z h sb cAS "coder" "B" (.int 0)) ∧ (Fld Z h sb cAS "count" "I" (.int 1)) ∧ (Fld Z h sb cAS "maybeLatin1" "Z" (.int ml)) ∧ (Arv Z h va kv .byte (16 : Int32) [(.int (nar .byte (ch.toInt8.toInt32))), (.int u1)] (.int (0 : Int32)))
theorem ef_close (m : MethodId) (x0 : Addr) (x1 : Int32) : entryFrame m #[(.ref x0), (.int x1)] 2 = mkF m 0 #[.val (.ref x0), .val (.int x1)] [] := by first | (simp [entryFrame, mkF, argsToLocals, Value.category]; done) | rfl
set_option maxRecDepth 65536 in
set_option maxHeartbeats 40000000 in
theorem rm_close (l : Launch) (Z : State) (a0 : Array Value) (hw : ∀ d ∈ tables_1, d.before a0 Z = true) (ws : List Jvm.Cond) (jw : Addr) (av : Int32) (sb : Addr) (va : Addr) (kv : ClassId) (u0 : Int32) (u1 : Int32) (ml : Int32) (ch : Int32) (G1 : Int32) (h0 : Heap) (n0 : Nat) (Z0 : n0 ≤ h0.size) (H0 : Exa Z h0 jw cJW) (H1 : Fld Z h0 jw cJW "text" "Ljava/lang/StringBuilder;" (.ref sb)) (H2 : Fld Z h0 jw cJW "afterValue" "Z" (.int av)) (H3 : Exa Z h0 sb cSB) (H4 : Fld Z h0 sb cAS "value" "[B" (.ref va)) (H5 : Fld Z h0 sb cAS "coder" "B" (.int 0)) (H6 : Fld Z h0 sb cAS "count" "I" (.int 0)) (H7 : Fld Z h0 sb cAS "maybeLatin1" "Z" (.int ml)) (H8 : Arv Z h0 va kv .byte (16 : Int32) [(.int u0), (.int u1)] (.int (0 : Int32))) (g_sb : n0 ≤ sb) (g_va : n0 ≤ va) (g_jw : n0 ≤ jw) (hch : ¬ ((255 : Int32) < ch)) (CS : Sta Z Z.heap "java/lang/String" "COMPACT_STRINGS" "Z" (.int G1)) (CSn : ¬ (G1 = (0 : Int32))) (O0 : Old Z n0 h0) :
    MetFree l mn25 (head1 (Jvm.Cond.code mn25 prog_33_method_12_code 2 (some (.object "com/example/adjoinery/adjoinery/JsonWriter")) :: ws) ({ frames := 3, cells := 0, slots := 0, locals := 40 } : Room)) (fun a U => a = #[(.ref jw), (.int ch)] ∧ Z.Warmed39 U.vm ∧ U.heap = h0) (fun _ _ _ _ _ => True) (fun _ U o U' => ∃ v L, o = .returned v ∧ Q_close Z jw av sb va kv u0 u1 ml ch G1 h0 n0 v U'.heap L ∧ FrameEnd U o U' L ({ frames := 3, cells := 0, slots := 0, locals := 40 } : Room).cells ({ frames := 3, cells := 0, slots := 0, locals := 40 } : Room).slots) := by
  refine MetFree.of_bodySF (plainFor_of_name pn_com_example_adjoinery_adjoinery_JsonWriter) hisR ?_
  intro p e s m args below meth c s₁ Bd hml0 hP hK
  obtain ⟨rfl, hZ, hh⟩ := hP
  have hx := Bd.exec
  have hby := Bd.bytes
  have hml : c.maxLocals = 2 := hml0
  have hown : s.vm.findClass "com/example/adjoinery/adjoinery/JsonWriter" = some m.cls := findClass_of_methodNamed Bd.named
  have hnm := (name_of_methodNamed Bd.named Bd.method).1
  have X0 : Stand p l e ({ frames := 3, cells := 0, slots := 0, locals := 40 } : Room) s m #[(.ref jw), (.int ch)] below meth c s₁ [] 0 0 := Stand.of_body Bd
  have e0 : s₁.heap = h0 := by rw [← hh, Bd.state]; rfl
  have N0 := Fr.nil n0
  refine go_st (fun t k => castTop (ef_close m jw ch) k) ?_
  show Go _ _ _ _ (s₁.setTop (mkF m 0 #[rv jw, iv ch] []))
  refine go_st (fun t k => XS.aloadN X0.here hx rfl (hb hby d25_0) rfl rfl k) ?_
  show Go _ _ _ _ (s₁.setTop (mkF m 1 #[rv jw, iv ch] [(.ref jw)]))
  obtain ⟨T1, X1, e1, st1⟩ := getF X0 hx hZ hown (host := "") (Or.inl (w30 hw)) Via.refl e0 H1 (g := (mkF m 1 #[rv jw, iv ch] [(.ref jw)])) rfl rfl (hb hby d25_1)
  refine go_st (fun t k => st1 t k) ?_
  refine go_st (fun t k => XS.iloadN X1.here hx rfl (hb hby d25_4) rfl k) ?_
  show Go _ _ _ _ (T1.setTop (mkF m 5 #[rv jw, iv ch] [(.int ch), (.ref sb)]))
  obtain ⟨cq2, kq2, q2a, q2b, q2c⟩ := isOf hZ e1 H3
  obtain ⟨_, _, ⟨T2, L2, kk2, nn2⟩, -, X2, ⟨Lc2, hQ2, lq2, yq2, zq2⟩, st2⟩ := X1.virtualBack hx (y := mn21) (z := mn21) hown (mvT hZ (w124 hw)) (mvT hZ (w125 hw)) (nf_same (y := mn21) (y' := mn4) (a0 := #[]) rfl (mvT hZ (w39 hw)) (notFace_of_selects (args := #[]) (mvT hZ (w40 hw)))) (mvT hZ (w127 hw)) (mvT hZ (w126 hw)) (by decide) (backOf (W := 0) (rm_sbapc0 l Z a0 hw [] sb va kv u0 u1 ml ch G1 h0 n0 (Nat.le_trans Z0 (Nat.le_refl _)) H3 H4 H5 H6 H7 H8 g_sb g_va hch CS CSn O0) hZ (w128 hw) (w12 hw) (by decide) (by decide)) q2a q2c (g := (mkF m 5 #[rv jw, iv ch] [(.int ch), (.ref sb)])) rfl (by rw [hml]; rfl) (Steps.refl _) (argsL := [(.int ch)]) (rest := []) (lenOf pd_13 rfl) rfl (by show 2 * 0 + _ ≤ _; exact Nat.le_of_eq rfl) (hb hby d25_5) (fun _ _ => ⟨rfl, e1, (by decide : 0 + 0 ≤ _), (by decide : 0 + 0 ≤ _)⟩)
  dsimp only [Pt.U, Pt.locs, Pt.cells, Pt.slots] at X2 lq2 yq2 zq2 st2 hQ2
  subst lq2 yq2 zq2
  obtain ⟨h2, e2⟩ : ∃ z, T2.heap = z := ⟨_, rfl⟩
  rw [e2] at hQ2
  obtain ⟨rfl, N2q, K2, p2_0, p2_1, p2_2, p2_3, p2_4, p2_5⟩ := hQ2
  have N2 := Fr.app N0 N2q
  refine go_tr st2 ?_
  show Go _ _ _ _ (T2.setTop (mkF m 8 #[rv jw, iv ch] [(.ref sb)]))
  refine go_st (fun t k => XS.pop X2.here hx rfl (hb hby d25_8) rfl rfl k) ?_
  refine go_st (fun t k => XS.aloadN X2.here hx rfl (hb hby d25_9) rfl rfl k) ?_
  refine go_st (fun t k => XS.iconst X2.here hx rfl (hb hby d25_10) k) ?_
  show Go _ _ _ _ (T2.setTop (mkF m 11 #[rv jw, iv ch] [(.int 1), (.ref jw)]))
  have nq3 : jw ≠ va := Exa.neArv H0 H8 (w2 hw)
  have nq4 : jw ≠ sb := ne_exa H0 H3 (by decide)
  have f5 : Fld Z h2 jw cJW "afterValue" "Z" (.int av) := (H2.keep K2 (ninS nq4 (ninS nq3 nin0)))
  have f6 : Exa Z h2 jw cJW := (H0.keep K2)
  obtain ⟨T7, h7, X7, e7, W7, st7⟩ := putFN X2 hx hZ hown (w122 hw) Via.refl e2 f5 f6 (Or.inl (w123 hw)) (w2 hw) (ty := .boolean) (v' := (.int 1)) (by decide) rfl rfl (g := (mkF m 11 #[rv jw, iv ch] [(.int 1), (.ref jw)])) rfl rfl (hb hby d25_11)
  have N7 := Fr.snoc X7 N2 g_jw
  have f8 : Fld Z h7 jw cJW "afterValue" "Z" (.int 1) := f5.same W7
  refine go_st (fun t k => st7 t k) ?_
  refine go_st (fun t k => XS.aloadN X7.here hx rfl (hb hby d25_14) rfl rfl k) ?_
  show Go _ _ _ _ (T7.setTop (mkF m 15 #[rv jw, iv ch] [(.ref jw)]))
  have f9 : Exa Z h7 jw cJW := (f6.wr W7)
  have f10 : Fld Z h7 jw cJW "text" "Ljava/lang/StringBuilder;" (.ref sb) := ((H1.keep K2 (ninS nq4 (ninS nq3 nin0))).other W7 (Or.inr (slot_ne (Or.inr (w31 hw)) (Or.inl (w123 hw)) (by decide) (t := (.object "java/lang/StringBuilder")) (t' := .boolean) (by decide) (by decide))))
  have f11 : Exa Z h7 sb cSB := (p2_0.wr W7)
  have f12 : Fld Z h7 sb cAS "value" "[B" (.ref va) := (p2_1.other W7 (Or.inl (Ne.symm nq4)))
  have f13 : Fld Z h7 sb cAS "coder" "B" (.int 0) := (p2_2.other W7 (Or.inl (Ne.symm nq4)))
  have f14 : Fld Z h7 sb cAS "count" "I" (.int 1) := (p2_3.other W7 (Or.inl (Ne.symm nq4)))
  have f15 : Fld Z h7 sb cAS "maybeLatin1" "Z" (.int ml) := (p2_4.other W7 (Or.inl (Ne.symm nq4)))
  have f16 : Arv Z h7 va kv .byte (16 : Int32) [(.int (nar .byte (ch.toInt8.toInt32))), (.int u1)] (.int (0 : Int32)) := (p2_5.other W7 (Ne.symm nq3))
  have ke17 : Keep h0 h2 [sb, va, jw] := (Keep.trans (Keep.refl h0 [sb, va, jw]) K2 (allS (Or.inl (List.mem_of_getElem? (i := 0) rfl)) (allS (Or.inl (List.mem_of_getElem? (i := 1) rfl)) all0)))
  have ke18 : Keep h0 h7 [sb, va, jw] := (Keep.wr ke17 W7 (Or.inl (List.mem_of_getElem? (i := 2) rfl)))
  obtain ⟨fs, hr, hrun, hended, hW, hsame⟩ := X7.leave (v := some (.ref jw)) (fun h => by rw [Bd.returns] at h; cases h)
  refine ⟨_, _, ?_, hrun, hended, _, _, rfl, ?_, ⟨_, rfl⟩, hW, hsame.mono (by decide) (by decide)⟩
  · exact retOut X7 hx Bd.returns rfl (Or.inr (Or.inr (Or.inr (Or.inr ⟨rfl, rfl, rfl⟩)))) (hb hby d25_15) hr
  · show Q_close _ _ _ _ _ _ _ _ _ _ _ _ _ _ T7.heap _
    rw [e7]
    exact ⟨rfl, N7, ke18, f9, f10, f8, f11, f12, f13, f14, f15, f16⟩
def Q_end (Z : State) (jw : Addr) (av : Int32) (sb : Addr) (va : Addr) (kv : ClassId) (u0 : Int32) (u1 : Int32) (ml : Int32) (G1 : Int32) (h0 : Heap) (n0 : Nat) (vR : Option Value) (h : Heap) (L : List Loc) : Prop := vR = some (.ref jw) ∧ Fr n0 L ∧ Keep h0 h [sb, va, jw] ∧ (Exa Z h jw cJW) ∧ (Fld Z h jw cJW "text" "Ljava/lang/StringBuilder;" (.ref sb)) ∧ (Fld Z h jw cJW "afterValue" "Z" (.int 1)) ∧ (Exa Z h sb cSB) ∧ (Fld Z h sb cAS "value" "[B" (.ref va)) ∧ (Fld Z h sb cAS "coder" "B" (.int 0)) ∧ (Fld Z h sb cAS "count" "I" (.int 1)) ∧ (Fld Z h sb cAS "maybeLatin1" "Z" (.int ml)) ∧ (Arv Z h va kv .byte (16 : Int32) [(.int (nar .byte ((93 : Int32).toInt8.toInt32))), (.int u1)] (.int (0 : Int32)))
theorem ef_end (m : MethodId) (x0 : Addr) : entryFrame m #[(.ref x0)] 1 = mkF m 0 #[.val (.ref x0)] [] := by first | (simp [entryFrame, mkF, argsToLocals, Value.category]; done) | rfl
set_option maxRecDepth 65536 in
set_option maxHeartbeats 40000000 in
theorem rm_end (l : Launch) (Z : State) (a0 : Array Value) (hw : ∀ d ∈ tables_1, d.before a0 Z = true) (ws : List Jvm.Cond) (jw : Addr) (av : Int32) (sb : Addr) (va : Addr) (kv : ClassId) (u0 : Int32) (u1 : Int32) (ml : Int32) (G1 : Int32) (h0 : Heap) (n0 : Nat) (Z0 : n0 ≤ h0.size) (H0 : Exa Z h0 jw cJW) (H1 : Fld Z h0 jw cJW "text" "Ljava/lang/StringBuilder;" (.ref sb)) (H2 : Fld Z h0 jw cJW "afterValue" "Z" (.int av)) (H3 : Exa Z h0 sb cSB) (H4 : Fld Z h0 sb cAS "value" "[B" (.ref va)) (H5 : Fld Z h0 sb cAS "coder" "B" (.int 0)) (H6 : Fld Z h0 sb cAS "count" "I" (.int 0)) (H7 : Fld Z h0 sb cAS "maybeLatin1" "Z" (.int ml)) (H8 : Arv Z h0 va kv .byte (16 : Int32) [(.int u0), (.int u1)] (.int (0 : Int32))) (g_sb : n0 ≤ sb) (g_va : n0 ≤ va) (g_jw : n0 ≤ jw) (CS : Sta Z Z.heap "java/lang/String" "COMPACT_STRINGS" "Z" (.int G1)) (CSn : ¬ (G1 = (0 : Int32))) (O0 : Old Z n0 h0) :
    MetFree l mn24 (head1 (Jvm.Cond.code mn24 prog_33_method_5_code 1 (some (.object "com/example/adjoinery/adjoinery/JsonWriter")) :: ws) ({ frames := 4, cells := 0, slots := 0, locals := 53 } : Room)) (fun a U => a = #[(.ref jw)] ∧ Z.Warmed39 U.vm ∧ U.heap = h0) (fun _ _ _ _ _ => True) (fun _ U o U' => ∃ v L, o = .returned v ∧ Q_end Z jw av sb va kv u0 u1 ml G1 h0 n0 v U'.heap L ∧ FrameEnd U o U' L ({ frames := 4, cells := 0, slots := 0, locals := 53 } : Room).cells ({ frames := 4, cells := 0, slots := 0, locals := 53 } : Room).slots) := by
  refine MetFree.of_bodySF (plainFor_of_name pn_com_example_adjoinery_adjoinery_JsonWriter) hisR ?_
  intro p e s m args below meth c s₁ Bd hml0 hP hK
  obtain ⟨rfl, hZ, hh⟩ := hP
  have hx := Bd.exec
  have hby := Bd.bytes
  have hml : c.maxLocals = 1 := hml0
  have hown : s.vm.findClass "com/example/adjoinery/adjoinery/JsonWriter" = some m.cls := findClass_of_methodNamed Bd.named
  have hnm := (name_of_methodNamed Bd.named Bd.method).1
  have X0 : Stand p l e ({ frames := 4, cells := 0, slots := 0, locals := 53 } : Room) s m #[(.ref jw)] below meth c s₁ [] 0 0 := Stand.of_body Bd
  have e0 : s₁.heap = h0 := by rw [← hh, Bd.state]; rfl
  have N0 := Fr.nil n0
  refine go_st (fun t k => castTop (ef_end m jw) k) ?_
  show Go _ _ _ _ (s₁.setTop (mkF m 0 #[rv jw] []))
  refine go_st (fun t k => XS.aloadN X0.here hx rfl (hb hby d24_0) rfl rfl k) ?_
  refine go_st (fun t k => XS.bipush X0.here hx rfl (hb hby d24_1) k) ?_
  show Go _ _ _ _ (s₁.setTop (mkF m 3 #[rv jw] [(.int 93), (.ref jw)]))
  obtain ⟨cq1, q1, q1'⟩ := H0.cell
  obtain ⟨_, _, ⟨T1, L1, kk1, nn1⟩, -, X1, ⟨Lc1, hQ1, lq1, yq1, zq1⟩, st1⟩ := X0.privateBack hx (y := mn25) hown (mvT hZ (w145 hw)) (mvT hZ (w146 hw)) (mvT hZ (sel_priv (w147 hw) (w146 hw) (nf_same (y := mn25) (y' := mn3) rfl (w34 hw) (notFace_of_selects (w35 hw))) (by decide))) (Cond.privateMethod_at (mvP hZ (w147 hw) (args := #[]))) (mvT hZ (w148 hw)) (by decide) (backOf (W := 0) (rm_close l Z a0 hw [] jw av sb va kv u0 u1 ml (93 : Int32) G1 h0 n0 (Nat.le_trans Z0 (Nat.le_refl _)) H0 H1 H2 H3 H4 H5 H6 H7 H8 g_sb g_va g_jw (by decide) CS CSn O0) hZ (w148 hw) (w3 hw) (by decide) (by decide)) (g := (mkF m 3 #[rv jw] [(.int 93), (.ref jw)])) rfl (by rw [hml]; rfl) (Steps.refl _) (a := jw) (by rw [e0]; exact q1) q1' (argsL := [(.int 93)]) (rest := []) (lenOf pd_14 rfl) rfl (by show 2 * 0 + _ ≤ _; exact Nat.le_of_eq rfl) (hb hby d24_3) (fun _ _ => ⟨rfl, e0, (by decide : 0 + 0 ≤ _), (by decide : 0 + 0 ≤ _)⟩)
  dsimp only [Pt.U, Pt.locs, Pt.cells, Pt.slots] at X1 lq1 yq1 zq1 st1 hQ1
  subst lq1 yq1 zq1
  obtain ⟨h1, e1⟩ : ∃ z, T1.heap = z := ⟨_, rfl⟩
  rw [e1] at hQ1
  obtain ⟨rfl, N1q, K1, p1_0, p1_1, p1_2, p1_3, p1_4, p1_5, p1_6, p1_7, p1_8⟩ := hQ1
  have N1 := Fr.app N0 N1q
  refine go_tr st1 ?_
  show Go _ _ _ _ (T1.setTop (mkF m 6 #[rv jw] [(.ref jw)]))
  have ke2 : Keep h0 h1 [sb, va, jw] := (Keep.trans (Keep.refl h0 [sb, va, jw]) K1 (allS (Or.inl (List.mem_of_getElem? (i := 0) rfl)) (allS (Or.inl (List.mem_of_getElem? (i := 1) rfl)) (allS (Or.inl (List.mem_of_getElem? (i := 2) rfl)) all0))))
  obtain ⟨fs, hr, hrun, hended, hW, hsame⟩ := X1.leave (v := some (.ref jw)) (fun h => by rw [Bd.returns] at h; cases h)
  refine ⟨_, _, ?_, hrun, hended, _, _, rfl, ?_, ⟨_, rfl⟩, hW, hsame.mono (by decide) (by decide)⟩
  · exact retOut X1 hx Bd.returns rfl (Or.inr (Or.inr (Or.inr (Or.inr ⟨rfl, rfl, rfl⟩)))) (hb hby d24_6) hr
  · show Q_end _ _ _ _ _ _ _ _ _ _ _ _ _ T1.heap _
    rw [e1]
    exact ⟨rfl, N1, ke2, p1_0, p1_1, p1_2, p1_3, p1_4, p1_5, p1_6, p1_7, p1_8⟩
def Q_tob (Z : State) (ch : Int32) (h0 : Heap) (n0 : Nat) (vR : Option Value) (h : Heap) (L : List Loc) : Prop := ∃ (ta : Addr) (kt : ClassId), vR = some (.ref ta) ∧ Fr n0 L ∧ Keep h0 h [] ∧ n0 ≤ ta ∧ h0.size ≤ ta ∧ (Arv Z h ta kt .byte (1 : Int32) [(.int (nar .byte (ch.toInt8.toInt32)))] (.int (0 : Int32)))
theorem ef_tob (m : MethodId) (x0 : Int32) : entryFrame m #[(.int x0)] 1 = mkF m 0 #[.val (.int x0)] [] := by first | (simp [entryFrame, mkF, argsToLocals, Value.category]; done) | rfl
set_option maxRecDepth 65536 in
set_option maxHeartbeats 40000000 in
theorem rm_tob (l : Launch) (Z : State) (a0 : Array Value) (hw : ∀ d ∈ tables_1, d.before a0 Z = true) (ws : List Jvm.Cond) (ch : Int32) (h0 : Heap) (n0 : Nat) (Z0 : n0 ≤ h0.size) (hch : ¬ ((255 : Int32) < ch)) :
    MetFree l mn27 (head1 (Jvm.Cond.code mn27 jdk_43_method_46_code 1 (some (.array .byte)) :: ws) ({ frames := 0, cells := 1, slots := 1, locals := 0 } : Room)) (fun a U => a = #[(.int ch)] ∧ Z.Warmed39 U.vm ∧ U.heap = h0) (fun _ _ _ _ _ => True) (fun _ U o U' => ∃ v L, o = .returned v ∧ Q_tob Z ch h0 n0 v U'.heap L ∧ FrameEnd U o U' L ({ frames := 0, cells := 1, slots := 1, locals := 0 } : Room).cells ({ frames := 0, cells := 1, slots := 1, locals := 0 } : Room).slots) := by
  refine MetFree.of_bodySF (plainFor_of_name pn_java_lang_StringLatin1) hisR ?_
  intro p e s m args below meth c s₁ Bd hml0 hP hK
  obtain ⟨rfl, hZ, hh⟩ := hP
  have hx := Bd.exec
  have hby := Bd.bytes
  have hml : c.maxLocals = 1 := hml0
  have hown : s.vm.findClass "java/lang/StringLatin1" = some m.cls := findClass_of_methodNamed Bd.named
  have hnm := (name_of_methodNamed Bd.named Bd.method).1
  have X0 : Stand p l e ({ frames := 0, cells := 1, slots := 1, locals := 0 } : Room) s m #[(.int ch)] below meth c s₁ [] 0 0 := Stand.of_body Bd
  have e0 : s₁.heap = h0 := by rw [← hh, Bd.state]; rfl
  have N0 := Fr.nil n0
  refine go_st (fun t k => castTop (ef_tob m ch) k) ?_
  show Go _ _ _ _ (s₁.setTop (mkF m 0 #[iv ch] []))
  refine go_st (fun t k => XS.iconst X0.here hx rfl (hb hby d27_0) k) ?_
  show Go _ _ _ _ (s₁.setTop (mkF m 1 #[iv ch] [(.int 1)]))
  obtain ⟨T1, h1, kc1, X1, e1, E1, A1, st1⟩ := newP X0 hx hZ (aty := .byte) (w25 hw) e0 (g := (mkF m 1 #[iv ch] [(.int 1)])) rfl (hb hby d27_1) rfl (by decide) (cap := 1) (by decide) (by decide) (by decide) (by decide)
  obtain ⟨b1, gq1⟩ : ∃ z, z = h0.size := ⟨_, rfl⟩
  rw [← gq1] at A1 st1
  have f2 : Arv Z h1 b1 kc1 .byte (1 : Int32) [(.int 0)] (.int 0) := (Arv.new A1 (by decide)).pad (pad_rep [] (.int 0) 1)
  refine go_st (fun t k => st1 t k) ?_
  refine go_st (fun t k => XS.dup X1.here hx rfl (hb hby d27_3) rfl rfl k) ?_
  refine go_st (fun t k => XS.iconst X1.here hx rfl (hb hby d27_4) k) ?_
  refine go_st (fun t k => XS.iloadN X1.here hx rfl (hb hby d27_5) rfl k) ?_
  show Go _ _ _ _ (T1.setTop (mkF m 6 #[iv ch] [(.int ch), (.int 0), (.ref b1), (.ref b1)]))
  refine go_st (fun t k => XS.i2b X1.here hx rfl (hb hby d27_6) rfl k) ?_
  show Go _ _ _ _ (T1.setTop (mkF m 7 #[iv ch] [(.int ((ch).toInt8.toInt32)), (.int 0), (.ref b1), (.ref b1)]))
  obtain ⟨zc3, zA3, zq3, zS3, zN3, zH3, zG3⟩ := id f2
  have hin3 : ¬ ((0 : Int32) < 0 ∨ zc3.slots.size ≤ ((0 : Int32)).toNatClampNeg) := inb_of zS3 ⟨by decide, by decide⟩
  obtain ⟨T3, h3, X3, e3, W3, st3⟩ := stB X1 hx hZ e1 zA3 (j := (0 : Int32)) hin3 (g := (mkF m 7 #[iv ch] [(.int ((ch).toInt8.toInt32)), (.int 0), (.ref b1), (.ref b1)])) rfl rfl (hb hby d27_7)
  have g_b1 : n0 ≤ b1 := Nat.le_trans (Nat.le_trans Z0 (Nat.le_refl _)) (Nat.le_of_eq gq1.symm)
  have N3 := Fr.snoc X3 N0 g_b1
  have f4 : Arv Z h3 b1 kc1 .byte (1 : Int32) [(.int (nar .byte ((ch).toInt8.toInt32)))] (.int 0) := Arv.set zA3 zq3 zS3 zN3 zH3 zG3 (fits_nar_byte _) W3 0 rfl (Nat.le_of_ble_eq_true rfl)
  refine go_st (fun t k => st3 t k) ?_
  show Go _ _ _ _ (T3.setTop (mkF m 8 #[iv ch] [(.ref b1)]))
  have ke5 : Keep h0 h1 [] := (Keep.ext (Keep.refl h0 []) E1)
  have ke6 : Keep h0 h3 [] := (Keep.wr ke5 W3 (Or.inr (Nat.le_of_eq gq1.symm)))
  obtain ⟨fs, hr, hrun, hended, hW, hsame⟩ := X3.leave (v := some (.ref b1)) (fun h => by rw [Bd.returns] at h; cases h)
  refine ⟨_, _, ?_, hrun, hended, _, _, rfl, ?_, ⟨_, rfl⟩, hW, hsame.mono (by decide) (by decide)⟩
  · exact retOut X3 hx Bd.returns rfl (Or.inr (Or.inr (Or.inr (Or.inr ⟨rfl, rfl, rfl⟩)))) (hb hby d27_8) hr
  · show Q_tob _ _ _ _ _ T3.heap _
    rw [e3]
    exact ⟨b1, kc1, rfl, N3, ke6, g_b1, (Nat.le_of_eq gq1.symm), f4⟩
def Q_strbb (Z : State) (sa : Addr) (ta : Addr) (h0 : Heap) (n0 : Nat) (vR : Option Value) (h : Heap) (L : List Loc) : Prop := vR = none ∧ Fr n0 L ∧ Keep h0 h [sa] ∧ (Exa Z h sa cST) ∧ (Fld Z h sa cST "value" "[B" (.ref ta)) ∧ (Fld Z h sa cST "coder" "B" (.int 0))
theorem ef_strbb (m : MethodId) (x0 : Addr) (x1 : Addr) (x2 : Int32) : entryFrame m #[(.ref x0), (.ref x1), (.int x2)] 3 = mkF m 0 #[.val (.ref x0), .val (.ref x1), .val (.int x2)] [] := by first | (simp [entryFrame, mkF, argsToLocals, Value.category]; done) | rfl
set_option maxRecDepth 65536 in
set_option maxHeartbeats 40000000 in
theorem rm_strbb (l : Launch) (Z : State) (a0 : Array Value) (hw : ∀ d ∈ tables_1, d.before a0 Z = true) (ws : List Jvm.Cond) (sa : Addr) (ta : Addr) (h0 : Heap) (n0 : Nat) (Z0 : n0 ≤ h0.size) (H0 : Exa Z h0 sa cST) (H1 : Fld Z h0 sa cST "value" "[B" .null) (H2 : Fld Z h0 sa cST "coder" "B" (.int 0)) (g_sa : n0 ≤ sa) :
    MetFree l mn28 (head1 (Jvm.Cond.code mn28 jdk_42_method_151_code 3 none :: ws) ({ frames := 1, cells := 0, slots := 0, locals := 12 } : Room)) (fun a U => a = #[(.ref sa), (.ref ta), (.int 0)] ∧ Z.Warmed39 U.vm ∧ U.heap = h0) (fun _ _ _ _ _ => True) (fun _ U o U' => ∃ v L, o = .returned v ∧ Q_strbb Z sa ta h0 n0 v U'.heap L ∧ FrameEnd U o U' L ({ frames := 1, cells := 0, slots := 0, locals := 12 } : Room).cells ({ frames := 1, cells := 0, slots := 0, locals := 12 } : Room).slots) := by
  refine MetFree.of_bodySF (plainFor_of_name pn_java_lang_String) hisR ?_
  intro p e s m args below meth c s₁ Bd hml0 hP hK
  obtain ⟨rfl, hZ, hh⟩ := hP
  have hx := Bd.exec
  have hby := Bd.bytes
  have hml : c.maxLocals = 3 := hml0
  have hown : s.vm.findClass "java/lang/String" = some m.cls := findClass_of_methodNamed Bd.named
  have hnm := (name_of_methodNamed Bd.named Bd.method).1
  have X0 : Stand p l e ({ frames := 1, cells := 0, slots := 0, locals := 12 } : Room) s m #[(.ref sa), (.ref ta), (.int 0)] below meth c s₁ [] 0 0 := Stand.of_body Bd
  have e0 : s₁.heap = h0 := by rw [← hh, Bd.state]; rfl
  have N0 := Fr.nil n0
  refine go_st (fun t k => castTop (ef_strbb m sa ta (0 : Int32)) k) ?_
  show Go _ _ _ _ (s₁.setTop (mkF m 0 #[rv sa, rv ta, iv 0] []))
  refine go_st (fun t k => XS.aloadN X0.here hx rfl (hb hby d28_0) rfl rfl k) ?_
  show Go _ _ _ _ (s₁.setTop (mkF m 1 #[rv sa, rv ta, iv 0] [(.ref sa)]))
  obtain ⟨T1, X1, e1, st1⟩ := initO X0 hx hZ hown (w51 hw) (w8 hw) (w9 hw) e0 (g := (mkF m 1 #[rv sa, rv ta, iv 0] [(.ref sa)])) rfl (by rw [hml]; rfl) rfl (hb hby d28_1) (by decide) (W := 0) (by show 2 * 0 + _ ≤ _; exact Nat.le_of_eq rfl) (by decide)
  refine go_st (fun t k => st1 t k) ?_
  refine go_st (fun t k => XS.aloadN X1.here hx rfl (hb hby d28_4) rfl rfl k) ?_
  refine go_st (fun t k => XS.aloadN X1.here hx rfl (hb hby d28_5) rfl rfl k) ?_
  show Go _ _ _ _ (T1.setTop (mkF m 6 #[rv sa, rv ta, iv 0] [(.ref ta), (.ref sa)]))
  obtain ⟨T2, h2, X2, e2, W2, st2⟩ := putF X1 hx hZ hown (host := "") (Or.inl (w93 hw)) Via.refl e1 H1 H0 (Or.inr ⟨(w94 hw), rfl, hnm⟩) (w43 hw) (ty := (.array .byte)) (by decide) rfl rfl (g := (mkF m 6 #[rv sa, rv ta, iv 0] [(.ref ta), (.ref sa)])) rfl rfl (hb hby d28_6)
  have N2 := Fr.snoc X2 N0 g_sa
  have f3 : Fld Z h2 sa cST "value" "[B" (.ref ta) := H1.same W2
  refine go_st (fun t k => st2 t k) ?_
  refine go_st (fun t k => XS.aloadN X2.here hx rfl (hb hby d28_9) rfl rfl k) ?_
  refine go_st (fun t k => XS.iloadN X2.here hx rfl (hb hby d28_10) rfl k) ?_
  show Go _ _ _ _ (T2.setTop (mkF m 11 #[rv sa, rv ta, iv 0] [(.int 0), (.ref sa)]))
  have f4 : Fld Z h2 sa cST "coder" "B" (.int 0) := (H2.other W2 (Or.inr (slot_ne (Or.inr (w74 hw)) (Or.inr (w94 hw)) (by decide) (t := .byte) (t' := (.array .byte)) (by decide) (by decide))))
  have f5 : Exa Z h2 sa cST := (H0.wr W2)
  obtain ⟨T6, h6, X6, e6, W6, st6⟩ := putFN X2 hx hZ hown (w73 hw) Via.refl e2 f4 f5 (Or.inr ⟨(w74 hw), rfl, hnm⟩) (w43 hw) (ty := .byte) (v' := (.int 0)) (by decide) rfl rfl (g := (mkF m 11 #[rv sa, rv ta, iv 0] [(.int 0), (.ref sa)])) rfl rfl (hb hby d28_11)
  have N6 := Fr.snoc X6 N2 g_sa
  have f7 : Fld Z h6 sa cST "coder" "B" (.int 0) := f4.same W6
  refine go_st (fun t k => st6 t k) ?_
  show Go _ _ _ _ (T6.setTop (mkF m 14 #[rv sa, rv ta, iv 0] []))
  have f8 : Exa Z h6 sa cST := (f5.wr W6)
  have f9 : Fld Z h6 sa cST "value" "[B" (.ref ta) := (f3.other W6 (Or.inr (slot_ne (Or.inr (w94 hw)) (Or.inr (w74 hw)) (by decide) (t := (.array .byte)) (t' := .byte) (by decide) (by decide))))
  have ke10 : Keep h0 h2 [sa] := (Keep.wr (Keep.refl h0 [sa]) W2 (Or.inl (List.mem_of_getElem? (i := 0) rfl)))
  have ke11 : Keep h0 h6 [sa] := (Keep.wr ke10 W6 (Or.inl (List.mem_of_getElem? (i := 0) rfl)))
  obtain ⟨fs, hr, hrun, hended, hW, hsame⟩ := X6.leave (v := none) (fun _ => rfl)
  refine ⟨_, _, ?_, hrun, hended, _, _, rfl, ?_, ⟨_, rfl⟩, hW, hsame.mono (by decide) (by decide)⟩
  · exact X6.returnOut hx Bd.returns (hb hby d28_14) hr
  · show Q_strbb _ _ _ _ _ _ T6.heap _
    rw [e6]
    exact ⟨rfl, N6, ke11, f8, f9, f7⟩
def Q_vof (Z : State) (ch : Int32) (G1 : Int32) (h0 : Heap) (n0 : Nat) (vR : Option Value) (h : Heap) (L : List Loc) : Prop := ∃ (sa : Addr) (ta : Addr) (kt : ClassId), vR = some (.ref sa) ∧ Fr n0 L ∧ Keep h0 h [] ∧ n0 ≤ sa ∧ h0.size ≤ sa ∧ n0 ≤ ta ∧ h0.size ≤ ta ∧ (Exa Z h sa cST) ∧ (Fld Z h sa cST "value" "[B" (.ref ta)) ∧ (Fld Z h sa cST "coder" "B" (.int 0)) ∧ (Arv Z h ta kt .byte (1 : Int32) [(.int (nar .byte (ch.toInt8.toInt32)))] (.int (0 : Int32)))
theorem ef_vof (m : MethodId) (x0 : Int32) : entryFrame m #[(.int x0)] 1 = mkF m 0 #[.val (.int x0)] [] := by first | (simp [entryFrame, mkF, argsToLocals, Value.category]; done) | rfl
set_option maxRecDepth 65536 in
set_option maxHeartbeats 40000000 in
theorem rm_vof (l : Launch) (Z : State) (a0 : Array Value) (hw : ∀ d ∈ tables_1, d.before a0 Z = true) (ws : List Jvm.Cond) (ch : Int32) (G1 : Int32) (h0 : Heap) (n0 : Nat) (Z0 : n0 ≤ h0.size) (hch : ¬ ((255 : Int32) < ch)) (CS : Sta Z Z.heap "java/lang/String" "COMPACT_STRINGS" "Z" (.int G1)) (CSn : ¬ (G1 = (0 : Int32))) (O0 : Old Z n0 h0) :
    MetFree l mn26 (head1 (Jvm.Cond.code mn26 jdk_42_method_139_code 1 (some (.object "java/lang/String")) :: ws) ({ frames := 2, cells := 2, slots := 5, locals := 27 } : Room)) (fun a U => a = #[(.int ch)] ∧ Z.Warmed39 U.vm ∧ U.heap = h0) (fun _ _ _ _ _ => True) (fun _ U o U' => ∃ v L, o = .returned v ∧ Q_vof Z ch G1 h0 n0 v U'.heap L ∧ FrameEnd U o U' L ({ frames := 2, cells := 2, slots := 5, locals := 27 } : Room).cells ({ frames := 2, cells := 2, slots := 5, locals := 27 } : Room).slots) := by
  refine MetFree.of_bodySF (plainFor_of_name pn_java_lang_String) hisR ?_
  intro p e s m args below meth c s₁ Bd hml0 hP hK
  obtain ⟨rfl, hZ, hh⟩ := hP
  have hx := Bd.exec
  have hby := Bd.bytes
  have hml : c.maxLocals = 1 := hml0
  have hown : s.vm.findClass "java/lang/String" = some m.cls := findClass_of_methodNamed Bd.named
  have hnm := (name_of_methodNamed Bd.named Bd.method).1
  have X0 : Stand p l e ({ frames := 2, cells := 2, slots := 5, locals := 27 } : Room) s m #[(.int ch)] below meth c s₁ [] 0 0 := Stand.of_body Bd
  have e0 : s₁.heap = h0 := by rw [← hh, Bd.state]; rfl
  have N0 := Fr.nil n0
  refine go_st (fun t k => castTop (ef_vof m ch) k) ?_
  show Go _ _ _ _ (s₁.setTop (mkF m 0 #[iv ch] []))
  obtain ⟨T1, X1, e1, st1⟩ := getS2 X0 hx hZ hown (host := "") (Or.inl (w152 hw)) Via.refl e0 (Sta.ext O0.2 CS) (g := (mkF m 0 #[iv ch] [])) rfl (hb hby d26_0)
  refine go_st (fun t k => st1 t k) ?_
  show Go _ _ _ _ (T1.setTop (mkF m 3 #[iv ch] [(.int G1)]))
  refine go_st (fun t k => XS.ifNo X1.here hx rfl (hb hby d26_3) rfl ((if0 _ _).trans (feq (CSn : ¬ (G1 = (0 : Int32)))).1) k) ?_
  show Go _ _ _ _ (T1.setTop (mkF m 6 #[iv ch] []))
  refine go_st (fun t k => XS.iloadN X1.here hx rfl (hb hby d26_6) rfl k) ?_
  show Go _ _ _ _ (T1.setTop (mkF m 7 #[iv ch] [(.int ch)]))
  obtain ⟨_, _, ⟨T2, L2, kk2, nn2⟩, -, X2, ⟨Lc2, hQ2, lq2, yq2, zq2⟩, st2⟩ := Jvm.LawKit.callS X1 hx (y := mn23) hown (mvT hZ (w153 hw)) (mvT hZ (w135 hw)) (mvT hZ (w136 hw)) (mvT hZ (w137 hw)) (by decide) (backOf (W := 0) (rm_can l Z a0 hw [] ch h0 n0 (Nat.le_trans Z0 (Nat.le_refl _)) hch) hZ (w137 hw) (w136 hw) (by decide) (by decide)) (g := (mkF m 7 #[iv ch] [(.int ch)])) rfl (by rw [hml]; rfl) (argsL := [(.int ch)]) (rest := []) (lenOf pd_11 rfl) rfl (by show 2 * 0 + _ ≤ _; exact Nat.le_of_eq rfl) (hb hby d26_7) (fun _ _ => ⟨rfl, e1, (by decide : 0 + 0 ≤ _), (by decide : 0 + 0 ≤ _)⟩)
  dsimp only [Pt.U, Pt.locs, Pt.cells, Pt.slots] at X2 lq2 yq2 zq2 st2 hQ2
  subst lq2 yq2 zq2
  obtain ⟨h2, e2⟩ : ∃ z, T2.heap = z := ⟨_, rfl⟩
  rw [e2] at hQ2
  obtain ⟨rfl, N2q, he2⟩ := hQ2
  have N2 := Fr.app N0 N2q
  rw [he2] at e2
  refine go_st st2 ?_
  show Go _ _ _ _ (T2.setTop (mkF m 10 #[iv ch] [(.int 1)]))
  refine go_st (fun t k => XS.ifNo X2.here hx rfl (hb hby d26_10) rfl ((if0 _ _).trans (feq ((by decide) : ¬ ((1 : Int32) = (0 : Int32)))).1) k) ?_
  show Go _ _ _ _ (T2.setTop (mkF m 13 #[iv ch] []))
  obtain ⟨T3, h3, X3, e3, E3, A3, D3, -, st3⟩ := newO X2 hx hZ hown (w154 hw) (w43 hw) (w24 hw) e2 (g := (mkF m 13 #[iv ch] [])) rfl (hb hby d26_13) (by decide) (by decide)
  obtain ⟨b3, gq3⟩ : ∃ z, z = h0.size := ⟨_, rfl⟩
  rw [← gq3] at A3 D3 st3
  have f4 : Fld Z h3 b3 cST "coder" "B" (.int 0) := D3 (Or.inr (w74 hw)) (ty := .byte) (by decide)
  have f5 : Fld Z h3 b3 cST "value" "[B" .null := D3 (Or.inr (w94 hw)) (ty := (.array .byte)) (by decide)
  refine go_st (fun t k => st3 t k) ?_
  refine go_st (fun t k => XS.dup X3.here hx rfl (hb hby d26_16) rfl rfl k) ?_
  refine go_st (fun t k => XS.iloadN X3.here hx rfl (hb hby d26_17) rfl k) ?_
  show Go _ _ _ _ (T3.setTop (mkF m 18 #[iv ch] [(.int ch), (.ref b3), (.ref b3)]))
  obtain ⟨_, _, ⟨T6, L6, kk6, nn6⟩, -, X6, ⟨Lc6, hQ6, lq6, yq6, zq6⟩, st6⟩ := Jvm.LawKit.callS X3 hx (y := mn27) hown (mvT hZ (w155 hw)) (mvT hZ (w156 hw)) (mvT hZ (w136 hw)) (mvT hZ (w157 hw)) (by decide) (backOf (W := 2) (rm_tob l Z a0 hw [] ch h3 n0 (Nat.le_trans Z0 E3.1) hch) hZ (w157 hw) (w136 hw) (by decide) (by decide)) (g := (mkF m 18 #[iv ch] [(.int ch), (.ref b3), (.ref b3)])) rfl (by rw [hml]; rfl) (argsL := [(.int ch)]) (rest := [(.ref b3), (.ref b3)]) (lenOf pd_16 rfl) rfl (by show 2 * 0 + _ ≤ _; exact Nat.le_of_eq rfl) (hb hby d26_18) (fun _ _ => ⟨rfl, e3, (by decide : 1 + 1 ≤ _), (by decide : 4 + 1 ≤ _)⟩)
  dsimp only [Pt.U, Pt.locs, Pt.cells, Pt.slots] at X6 lq6 yq6 zq6 st6 hQ6
  subst lq6 yq6 zq6
  obtain ⟨h6, e6⟩ : ∃ z, T6.heap = z := ⟨_, rfl⟩
  rw [e6] at hQ6
  obtain ⟨ta_6, kt_6, rfl, N6q, K6, gf6_0, lf6_0, p6_1⟩ := hQ6
  have N6 := Fr.app N2 N6q
  refine go_st st6 ?_
  refine go_st (fun t k => XS.iconst X6.here hx rfl (hb hby d26_21) k) ?_
  show Go _ _ _ _ (T6.setTop (mkF m 22 #[iv ch] [(.int 0), (.ref ta_6), (.ref b3), (.ref b3)]))
  have f7 : Exa Z h6 b3 cST := (A3.keep K6)
  have f8 : Fld Z h6 b3 cST "value" "[B" .null := (f5.keep K6 nin0)
  have f9 : Fld Z h6 b3 cST "coder" "B" (.int 0) := (f4.keep K6 nin0)
  have g_b3 : n0 ≤ b3 := Nat.le_trans (Nat.le_trans Z0 (Nat.le_refl _)) (Nat.le_of_eq gq3.symm)
  have sz10 : h0.size ≤ h6.size := (Nat.le_trans E3.1 K6.1)
  obtain ⟨_, _, ⟨T11, L11, kk11, nn11⟩, -, X11, ⟨Lc11, hQ11, lq11, yq11, zq11⟩, st11⟩ := X6.specialBack hx (y := mn28) rfl hown (mvT hZ (w158 hw)) (mvT hZ (w159 hw)) (mvT hZ (w160 hw)) (by decide) (backOf (W := 1) (rm_strbb l Z a0 hw [] b3 ta_6 h6 n0 (Nat.le_trans Z0 sz10) f7 f8 f9 g_b3) hZ (w160 hw) (w24 hw) (by decide) (by decide)) (g := (mkF m 22 #[iv ch] [(.int 0), (.ref ta_6), (.ref b3), (.ref b3)])) rfl (by rw [hml]; rfl) (Steps.refl _) (a := b3) (argsL := [(.ref ta_6), (.int 0)]) (rest := [(.ref b3)]) (lenOf pd_17 rfl) rfl (by show 2 * 0 + _ ≤ _; exact Nat.le_of_eq rfl) (hb hby d26_22) (fun _ _ => ⟨rfl, e6, (by decide : 2 + 0 ≤ _), (by decide : 5 + 0 ≤ _)⟩)
  dsimp only [Pt.U, Pt.locs, Pt.cells, Pt.slots] at X11 lq11 yq11 zq11 st11 hQ11
  subst lq11 yq11 zq11
  obtain ⟨h11, e11⟩ : ∃ z, T11.heap = z := ⟨_, rfl⟩
  rw [e11] at hQ11
  obtain ⟨rfl, N11q, K11, p11_0, p11_1, p11_2⟩ := hQ11
  have N11 := Fr.app N6 N11q
  refine go_tr st11 ?_
  show Go _ _ _ _ (T11.setTop (mkF m 25 #[iv ch] [(.ref b3)]))
  have nq12 : b3 ≠ ta_6 := Nat.ne_of_lt (Nat.lt_of_lt_of_le (Nat.lt_of_lt_of_le A3.lt (Nat.le_refl _)) lf6_0)
  have f13 : Arv Z h11 ta_6 kt_6 .byte (1 : Int32) [(.int (nar .byte (ch.toInt8.toInt32)))] (.int (0 : Int32)) := (p6_1.keep K11 (ninS (Ne.symm nq12) nin0))
  have ke14 : Keep h0 h3 [] := (Keep.ext (Keep.refl h0 []) E3)
  have ke15 : Keep h0 h6 [] := (Keep.trans ke14 K6 all0)
  have ke16 : Keep h0 h11 [] := (Keep.trans ke15 K11 (allS (Or.inr (Nat.le_of_eq gq3.symm)) all0))
  obtain ⟨fs, hr, hrun, hended, hW, hsame⟩ := X11.leave (v := some (.ref b3)) (fun h => by rw [Bd.returns] at h; cases h)
  refine ⟨_, _, ?_, hrun, hended, _, _, rfl, ?_, ⟨_, rfl⟩, hW, hsame.mono (by decide) (by decide)⟩
  · exact retOut X11 hx Bd.returns rfl (Or.inr (Or.inr (Or.inr (Or.inr ⟨rfl, rfl, rfl⟩)))) (hb hby d26_25) hr
  · show Q_vof _ _ _ _ _ _ T11.heap _
    rw [e11]
    exact ⟨b3, ta_6, kt_6, rfl, N11, ke16, g_b3, (Nat.le_of_eq gq3.symm), gf6_0, (Nat.le_trans E3.1 lf6_0), p11_0, p11_1, p11_2, f13⟩
def Q_sisEmpty0 (Z : State) (xs : Addr) (xt : Addr) (kx : ClassId) (G1 : Int32) (h0 : Heap) (n0 : Nat) (vR : Option Value) (h : Heap) (L : List Loc) : Prop := vR = some (.int 1) ∧ Fr n0 L ∧ h = h0
theorem ef_sisEmpty0 (m : MethodId) (x0 : Addr) : entryFrame m #[(.ref x0)] 1 = mkF m 0 #[.val (.ref x0)] [] := by first | (simp [entryFrame, mkF, argsToLocals, Value.category]; done) | rfl
set_option maxRecDepth 65536 in
set_option maxHeartbeats 40000000 in
theorem rm_sisEmpty0 (l : Launch) (Z : State) (a0 : Array Value) (hw : ∀ d ∈ tables_1, d.before a0 Z = true) (ws : List Jvm.Cond) (xs : Addr) (xt : Addr) (kx : ClassId) (G1 : Int32) (h0 : Heap) (n0 : Nat) (Z0 : n0 ≤ h0.size) (H0 : Exa Z h0 xs cST) (H1 : Fld Z h0 xs cST "value" "[B" (.ref xt)) (H2 : Fld Z h0 xs cST "coder" "B" (.int 0)) (H3 : Arv Z h0 xt kx .byte (0 : Int32) [] (.int (0 : Int32))) (CS : Sta Z Z.heap "java/lang/String" "COMPACT_STRINGS" "Z" (.int G1)) (CSn : ¬ (G1 = (0 : Int32))) (O0 : Old Z n0 h0) :
    MetFree l mn29 (head1 (Jvm.Cond.code mn29 jdk_42_method_55_code 1 (some .boolean) :: ws) ({ frames := 0, cells := 0, slots := 0, locals := 0 } : Room)) (fun a U => a = #[(.ref xs)] ∧ Z.Warmed39 U.vm ∧ U.heap = h0) (fun _ _ _ _ _ => True) (fun _ U o U' => ∃ v L, o = .returned v ∧ Q_sisEmpty0 Z xs xt kx G1 h0 n0 v U'.heap L ∧ FrameEnd U o U' L ({ frames := 0, cells := 0, slots := 0, locals := 0 } : Room).cells ({ frames := 0, cells := 0, slots := 0, locals := 0 } : Room).slots) := by
  refine MetFree.of_bodySF (plainFor_of_name pn_java_lang_String) hisR ?_
  intro p e s m args below meth c s₁ Bd hml0 hP hK
  obtain ⟨rfl, hZ, hh⟩ := hP
  have hx := Bd.exec
  have hby := Bd.bytes
  have hml : c.maxLocals = 1 := hml0
  have hown : s.vm.findClass "java/lang/String" = some m.cls := findClass_of_methodNamed Bd.named
  have hnm := (name_of_methodNamed Bd.named Bd.method).1
  have X0 : Stand p l e ({ frames := 0, cells := 0, slots := 0, locals := 0 } : Room) s m #[(.ref xs)] below meth c s₁ [] 0 0 := Stand.of_body Bd
  have e0 : s₁.heap = h0 := by rw [← hh, Bd.state]; rfl
  have N0 := Fr.nil n0
  refine go_st (fun t k => castTop (ef_sisEmpty0 m xs) k) ?_
  show Go _ _ _ _ (s₁.setTop (mkF m 0 #[rv xs] []))
  refine go_st (fun t k => XS.aloadN X0.here hx rfl (hb hby d29_0) rfl rfl k) ?_
  show Go _ _ _ _ (s₁.setTop (mkF m 1 #[rv xs] [(.ref xs)]))
  obtain ⟨T1, X1, e1, st1⟩ := getF X0 hx hZ hown (host := "") (Or.inl (w93 hw)) Via.refl e0 H1 (g := (mkF m 1 #[rv xs] [(.ref xs)])) rfl rfl (hb hby d29_1)
  refine go_st (fun t k => st1 t k) ?_
  show Go _ _ _ _ (T1.setTop (mkF m 4 #[rv xs] [(.ref xt)]))
  obtain ⟨zc2, zA2, zq2, zS2, zN2, zH2, zG2⟩ := id H3
  refine go_st (fun t k => X1.arraylength hx (by rw [e1]; exact zA2.1) (State.isArrayOf_alike hZ.alike zA2.2.1) (g := (mkF m 4 #[rv xs] [(.ref xt)])) rfl rfl (hb hby d29_4) t k) ?_
  rw [len_of zS2 zN2]
  show Go _ _ _ _ (T1.setTop (mkF m 5 #[rv xs] [(.int 0)]))
  refine go_st (fun t k => XS.ifNo X1.here hx rfl (hb hby d29_5) rfl ((if0 _ _).trans (teq ((by decide) : (0 : Int32) = (0 : Int32))).2) k) ?_
  show Go _ _ _ _ (T1.setTop (mkF m 8 #[rv xs] []))
  refine go_st (fun t k => XS.iconst X1.here hx rfl (hb hby d29_8) k) ?_
  refine go_st (fun t k => XS.goto X1.here hx rfl (pc0 := 9) (pc' := 13) rfl (hb hby d29_9) (by decide) (by decide) k) ?_
  show Go _ _ _ _ (T1.setTop (mkF m 13 #[rv xs] [(.int 1)]))
  obtain ⟨fs, hr, hrun, hended, hW, hsame⟩ := X1.leave (v := some (.int 1)) (fun h => by rw [Bd.returns] at h; cases h)
  refine ⟨_, _, ?_, hrun, hended, _, _, rfl, ?_, ⟨_, rfl⟩, hW, hsame.mono (by decide) (by decide)⟩
  · exact retN X1 hx (t := .boolean) Bd.returns (by simp) (hb hby d29_13) hr
  · show Q_sisEmpty0 _ _ _ _ _ _ _ _ T1.heap _
    rw [e1]
    exact ⟨rfl, N0, rfl⟩
def Q_leq1 (Z : State) (xt : Addr) (kx : ClassId) (y0 : Int32) (zt : Addr) (kz : ClassId) (z0_ : Int32) (h0 : Heap) (n0 : Nat) (vR : Option Value) (h : Heap) (L : List Loc) : Prop := vR = some (.int 1) ∧ Fr n0 L ∧ h = h0
theorem ef_leq1 (m : MethodId) (x0 : Addr) (x1 : Addr) : entryFrame m #[(.ref x0), (.ref x1)] 3 = mkF m 0 #[.val (.ref x0), .val (.ref x1), .unset] [] := by first | (simp [entryFrame, mkF, argsToLocals, Value.category]; done) | rfl
set_option maxRecDepth 65536 in
set_option maxHeartbeats 40000000 in
theorem rm_leq1 (l : Launch) (Z : State) (a0 : Array Value) (hw : ∀ d ∈ tables_1, d.before a0 Z = true) (ws : List Jvm.Cond) (xt : Addr) (kx : ClassId) (y0 : Int32) (zt : Addr) (kz : ClassId) (z0_ : Int32) (h0 : Heap) (n0 : Nat) (Z0 : n0 ≤ h0.size) (H0 : Arv Z h0 xt kx .byte (1 : Int32) [(.int y0)] (.int (0 : Int32))) (H1 : Arv Z h0 zt kz .byte (1 : Int32) [(.int z0_)] (.int (0 : Int32))) (heq0 : y0 = z0_) :
    MetFree l mn31 (head1 (Jvm.Cond.code mn31 jdk_43_method_13_code 3 (some .boolean) :: ws) ({ frames := 0, cells := 0, slots := 0, locals := 0 } : Room)) (fun a U => a = #[(.ref xt), (.ref zt)] ∧ Z.Warmed39 U.vm ∧ U.heap = h0) (fun _ _ _ _ _ => True) (fun _ U o U' => ∃ v L, o = .returned v ∧ Q_leq1 Z xt kx y0 zt kz z0_ h0 n0 v U'.heap L ∧ FrameEnd U o U' L ({ frames := 0, cells := 0, slots := 0, locals := 0 } : Room).cells ({ frames := 0, cells := 0, slots := 0, locals := 0 } : Room).slots) := by
  refine MetFree.of_bodySF (plainFor_of_name pn_java_lang_StringLatin1) hisR ?_
  intro p e s m args below meth c s₁ Bd hml0 hP hK
  obtain ⟨rfl, hZ, hh⟩ := hP
  have hx := Bd.exec
  have hby := Bd.bytes
  have hml : c.maxLocals = 3 := hml0
  have hown : s.vm.findClass "java/lang/StringLatin1" = some m.cls := findClass_of_methodNamed Bd.named
  have hnm := (name_of_methodNamed Bd.named Bd.method).1
  have X0 : Stand p l e ({ frames := 0, cells := 0, slots := 0, locals := 0 } : Room) s m #[(.ref xt), (.ref zt)] below meth c s₁ [] 0 0 := Stand.of_body Bd
  have e0 : s₁.heap = h0 := by rw [← hh, Bd.state]; rfl
  have N0 := Fr.nil n0
  refine go_st (fun t k => castTop (ef_leq1 m xt zt) k) ?_
  show Go _ _ _ _ (s₁.setTop (mkF m 0 #[rv xt, rv zt, .unset] []))
  refine go_st (fun t k => XS.aloadN X0.here hx rfl (hb hby d31_0) rfl rfl k) ?_
  show Go _ _ _ _ (s₁.setTop (mkF m 1 #[rv xt, rv zt, .unset] [(.ref xt)]))
  obtain ⟨zc1, zA1, zq1, zS1, zN1, zH1, zG1⟩ := id H0
  refine go_st (fun t k => X0.arraylength hx (by rw [e0]; exact zA1.1) (State.isArrayOf_alike hZ.alike zA1.2.1) (g := (mkF m 1 #[rv xt, rv zt, .unset] [(.ref xt)])) rfl rfl (hb hby d31_1) t k) ?_
  rw [len_of zS1 zN1]
  refine go_st (fun t k => XS.aloadN X0.here hx rfl (hb hby d31_2) rfl rfl k) ?_
  show Go _ _ _ _ (s₁.setTop (mkF m 3 #[rv xt, rv zt, .unset] [(.ref zt), (.int 1)]))
  obtain ⟨zc2, zA2, zq2, zS2, zN2, zH2, zG2⟩ := id H1
  refine go_st (fun t k => X0.arraylength hx (by rw [e0]; exact zA2.1) (State.isArrayOf_alike hZ.alike zA2.2.1) (g := (mkF m 3 #[rv xt, rv zt, .unset] [(.ref zt), (.int 1)])) rfl rfl (hb hby d31_3) t k) ?_
  rw [len_of zS2 zN2]
  show Go _ _ _ _ (s₁.setTop (mkF m 4 #[rv xt, rv zt, .unset] [(.int 1), (.int 1)]))
  refine go_st (fun t k => XS.icmpNo X0.here hx rfl (hb hby d31_4) rfl (teq ((by decide) : (1 : Int32) = (1 : Int32))).2 k) ?_
  show Go _ _ _ _ (s₁.setTop (mkF m 7 #[rv xt, rv zt, .unset] []))
  refine go_st (fun t k => XS.iconst X0.here hx rfl (hb hby d31_7) k) ?_
  refine go_st (fun t k => XS.istoreN X0.here hx rfl (hb hby d31_8) rfl (l' := #[rv xt, rv zt, iv 0]) rfl k) ?_
  refine go_st (fun t k => XS.iloadN X0.here hx rfl (hb hby d31_9) rfl k) ?_
  refine go_st (fun t k => XS.aloadN X0.here hx rfl (hb hby d31_10) rfl rfl k) ?_
  show Go _ _ _ _ (s₁.setTop (mkF m 11 #[rv xt, rv zt, iv 0] [(.ref xt), (.int 0)]))
  obtain ⟨zc3, zA3, zq3, zS3, zN3, zH3, zG3⟩ := id H0
  refine go_st (fun t k => X0.arraylength hx (by rw [e0]; exact zA3.1) (State.isArrayOf_alike hZ.alike zA3.2.1) (g := (mkF m 11 #[rv xt, rv zt, iv 0] [(.ref xt), (.int 0)])) rfl rfl (hb hby d31_11) t k) ?_
  rw [len_of zS3 zN3]
  show Go _ _ _ _ (s₁.setTop (mkF m 12 #[rv xt, rv zt, iv 0] [(.int 1), (.int 0)]))
  refine go_st (fun t k => XS.icmpNo X0.here hx rfl (hb hby d31_12) rfl (tlt ((by decide) : (0 : Int32) < (1 : Int32))).2.1 k) ?_
  show Go _ _ _ _ (s₁.setTop (mkF m 15 #[rv xt, rv zt, iv 0] []))
  refine go_st (fun t k => XS.aloadN X0.here hx rfl (hb hby d31_15) rfl rfl k) ?_
  refine go_st (fun t k => XS.iloadN X0.here hx rfl (hb hby d31_16) rfl k) ?_
  show Go _ _ _ _ (s₁.setTop (mkF m 17 #[rv xt, rv zt, iv 0] [(.int 0), (.ref xt)]))
  obtain ⟨zc4, zA4, zq4, zS4, zN4, zH4, zG4⟩ := id H0
  have hin4 : ¬ ((0 : Int32) < 0 ∨ zc4.slots.size ≤ ((0 : Int32)).toNatClampNeg) := inb_of zS4 ⟨by decide, by decide⟩
  have hat4 : zc4.slots[((0 : Int32)).toNatClampNeg]? = some (.int y0) := Has.at zH4 hin4 rfl
  refine go_st (fun t k => X0.baloadBytes hx (j := (0 : Int32)) (v := (.int y0)) (by rw [e0]; exact zA4.1) (State.isArrayOf_alike hZ.alike zA4.2.1) zA4.2.2 hin4 hat4 (g := (mkF m 17 #[rv xt, rv zt, iv 0] [(.int 0), (.ref xt)])) rfl rfl (hb hby d31_17) t k) ?_
  refine go_st (fun t k => XS.aloadN X0.here hx rfl (hb hby d31_18) rfl rfl k) ?_
  refine go_st (fun t k => XS.iloadN X0.here hx rfl (hb hby d31_19) rfl k) ?_
  show Go _ _ _ _ (s₁.setTop (mkF m 20 #[rv xt, rv zt, iv 0] [(.int 0), (.ref zt), (.int y0)]))
  obtain ⟨zc5, zA5, zq5, zS5, zN5, zH5, zG5⟩ := id H1
  have hin5 : ¬ ((0 : Int32) < 0 ∨ zc5.slots.size ≤ ((0 : Int32)).toNatClampNeg) := inb_of zS5 ⟨by decide, by decide⟩
  have hat5 : zc5.slots[((0 : Int32)).toNatClampNeg]? = some (.int z0_) := Has.at zH5 hin5 rfl
  refine go_st (fun t k => X0.baloadBytes hx (j := (0 : Int32)) (v := (.int z0_)) (by rw [e0]; exact zA5.1) (State.isArrayOf_alike hZ.alike zA5.2.1) zA5.2.2 hin5 hat5 (g := (mkF m 20 #[rv xt, rv zt, iv 0] [(.int 0), (.ref zt), (.int y0)])) rfl rfl (hb hby d31_20) t k) ?_
  show Go _ _ _ _ (s₁.setTop (mkF m 21 #[rv xt, rv zt, iv 0] [(.int z0_), (.int y0)]))
  refine go_st (fun t k => XS.icmpYes X0.here hx rfl (pc0 := 21) (pc' := 26) rfl (hb hby d31_21) rfl (teq (heq0 : y0 = z0_)).1 (by decide) (by decide) k) ?_
  show Go _ _ _ _ (s₁.setTop (mkF m 26 #[rv xt, rv zt, iv 0] []))
  refine go_st (fun t k => XS.iinc X0.here hx rfl (hb hby d31_26) rfl (l' := #[rv xt, rv zt, iv ((0 : Int32) + (1 : Int32))]) rfl k) ?_
  rw [show ((0 : Int32) + (1 : Int32)) = (1 : Int32) from by decide]
  show Go _ _ _ _ (s₁.setTop (mkF m 29 #[rv xt, rv zt, iv 1] []))
  refine go_st (fun t k => XS.goto X0.here hx rfl (pc0 := 29) (pc' := 9) rfl (hb hby d31_29) (by decide) (by decide) k) ?_
  show Go _ _ _ _ (s₁.setTop (mkF m 9 #[rv xt, rv zt, iv 1] []))
  refine go_st (fun t k => XS.iloadN X0.here hx rfl (hb hby d31_9) rfl k) ?_
  refine go_st (fun t k => XS.aloadN X0.here hx rfl (hb hby d31_10) rfl rfl k) ?_
  show Go _ _ _ _ (s₁.setTop (mkF m 11 #[rv xt, rv zt, iv 1] [(.ref xt), (.int 1)]))
  obtain ⟨zc6, zA6, zq6, zS6, zN6, zH6, zG6⟩ := id H0
  refine go_st (fun t k => X0.arraylength hx (by rw [e0]; exact zA6.1) (State.isArrayOf_alike hZ.alike zA6.2.1) (g := (mkF m 11 #[rv xt, rv zt, iv 1] [(.ref xt), (.int 1)])) rfl rfl (hb hby d31_11) t k) ?_
  rw [len_of zS6 zN6]
  show Go _ _ _ _ (s₁.setTop (mkF m 12 #[rv xt, rv zt, iv 1] [(.int 1), (.int 1)]))
  refine go_st (fun t k => XS.icmpYes X0.here hx rfl (pc0 := 12) (pc' := 32) rfl (hb hby d31_12) rfl (flt ((by decide) : ¬ ((1 : Int32) < (1 : Int32)))).2.1 (by decide) (by decide) k) ?_
  show Go _ _ _ _ (s₁.setTop (mkF m 32 #[rv xt, rv zt, iv 1] []))
  refine go_st (fun t k => XS.iconst X0.here hx rfl (hb hby d31_32) k) ?_
  show Go _ _ _ _ (s₁.setTop (mkF m 33 #[rv xt, rv zt, iv 1] [(.int 1)]))
  obtain ⟨fs, hr, hrun, hended, hW, hsame⟩ := X0.leave (v := some (.int 1)) (fun h => by rw [Bd.returns] at h; cases h)
  refine ⟨_, _, ?_, hrun, hended, _, _, rfl, ?_, ⟨_, rfl⟩, hW, hsame.mono (by decide) (by decide)⟩
  · exact retN X0 hx (t := .boolean) Bd.returns (by simp) (hb hby d31_33) hr
  · show Q_leq1 _ _ _ _ _ _ _ _ _ _ s₁.heap _
    rw [e0]
    exact ⟨rfl, N0, rfl⟩
def Q_seq1 (Z : State) (xs : Addr) (xt : Addr) (kx : ClassId) (y0 : Int32) (zs : Addr) (zt : Addr) (kz : ClassId) (z0_ : Int32) (G1 : Int32) (h0 : Heap) (n0 : Nat) (vR : Option Value) (h : Heap) (L : List Loc) : Prop := vR = some (.int 1) ∧ Fr n0 L ∧ h = h0
theorem ef_seq1 (m : MethodId) (x0 : Addr) (x1 : Addr) : entryFrame m #[(.ref x0), (.ref x1)] 3 = mkF m 0 #[.val (.ref x0), .val (.ref x1), .unset] [] := by first | (simp [entryFrame, mkF, argsToLocals, Value.category]; done) | rfl
set_option maxRecDepth 65536 in
set_option maxHeartbeats 40000000 in
theorem rm_seq1 (l : Launch) (Z : State) (a0 : Array Value) (hw : ∀ d ∈ tables_1, d.before a0 Z = true) (ws : List Jvm.Cond) (xs : Addr) (xt : Addr) (kx : ClassId) (y0 : Int32) (zs : Addr) (zt : Addr) (kz : ClassId) (z0_ : Int32) (G1 : Int32) (h0 : Heap) (n0 : Nat) (Z0 : n0 ≤ h0.size) (H0 : Exa Z h0 xs cST) (H1 : Fld Z h0 xs cST "value" "[B" (.ref xt)) (H2 : Fld Z h0 xs cST "coder" "B" (.int 0)) (H3 : Arv Z h0 xt kx .byte (1 : Int32) [(.int y0)] (.int (0 : Int32))) (H4 : Exa Z h0 zs cST) (H5 : Fld Z h0 zs cST "value" "[B" (.ref zt)) (H6 : Fld Z h0 zs cST "coder" "B" (.int 0)) (H7 : Arv Z h0 zt kz .byte (1 : Int32) [(.int z0_)] (.int (0 : Int32))) (ne_xs_zs : xs ≠ zs) (heq0 : y0 = z0_) (CS : Sta Z Z.heap "java/lang/String" "COMPACT_STRINGS" "Z" (.int G1)) (CSn : ¬ (G1 = (0 : Int32))) (O0 : Old Z n0 h0) :
    MetFree l mn30 (head1 (Jvm.Cond.code mn30 jdk_42_method_66_code 3 (some .boolean) :: ws) ({ frames := 1, cells := 0, slots := 0, locals := 14 } : Room)) (fun a U => a = #[(.ref xs), (.ref zs)] ∧ Z.Warmed39 U.vm ∧ U.heap = h0) (fun _ _ _ _ _ => True) (fun _ U o U' => ∃ v L, o = .returned v ∧ Q_seq1 Z xs xt kx y0 zs zt kz z0_ G1 h0 n0 v U'.heap L ∧ FrameEnd U o U' L ({ frames := 1, cells := 0, slots := 0, locals := 14 } : Room).cells ({ frames := 1, cells := 0, slots := 0, locals := 14 } : Room).slots) := by
  refine MetFree.of_bodySF (plainFor_of_name pn_java_lang_String) hisR ?_
  intro p e s m args below meth c s₁ Bd hml0 hP hK
  obtain ⟨rfl, hZ, hh⟩ := hP
  have hx := Bd.exec
  have hby := Bd.bytes
  have hml : c.maxLocals = 3 := hml0
  have hown : s.vm.findClass "java/lang/String" = some m.cls := findClass_of_methodNamed Bd.named
  have hnm := (name_of_methodNamed Bd.named Bd.method).1
  have X0 : Stand p l e ({ frames := 1, cells := 0, slots := 0, locals := 14 } : Room) s m #[(.ref xs), (.ref zs)] below meth c s₁ [] 0 0 := Stand.of_body Bd
  have e0 : s₁.heap = h0 := by rw [← hh, Bd.state]; rfl
  have N0 := Fr.nil n0
  refine go_st (fun t k => castTop (ef_seq1 m xs zs) k) ?_
  show Go _ _ _ _ (s₁.setTop (mkF m 0 #[rv xs, rv zs, .unset] []))
  refine go_st (fun t k => XS.aloadN X0.here hx rfl (hb hby d30_0) rfl rfl k) ?_
  refine go_st (fun t k => XS.aloadN X0.here hx rfl (hb hby d30_1) rfl rfl k) ?_
  show Go _ _ _ _ (s₁.setTop (mkF m 2 #[rv xs, rv zs, .unset] [(.ref zs), (.ref xs)]))
  refine go_st (fun t k => Jvm.RoadKit.acmp (g := (mkF m 2 #[rv xs, rv zs, .unset] [(.ref zs), (.ref xs)])) X0 hx rfl rfl rfl (pc0 := 2) (pc' := 7) (same := false) rfl (hb hby d30_2) rfl (decide_eq_false (fun q => ne_xs_zs (Value.ref.inj q))) (by decide) (by decide) k) ?_
  show Go _ _ _ _ (s₁.setTop (mkF m 7 #[rv xs, rv zs, .unset] []))
  refine go_st (fun t k => XS.aloadN X0.here hx rfl (hb hby d30_7) rfl rfl k) ?_
  show Go _ _ _ _ (s₁.setTop (mkF m 8 #[rv xs, rv zs, .unset] [(.ref zs)]))
  obtain ⟨T1, X1, e1, st1⟩ := instY X0 hx hZ hown (w154 hw) e0 (Ins.self H4) (g := (mkF m 8 #[rv xs, rv zs, .unset] [(.ref zs)])) rfl rfl (hb hby d30_8)
  refine go_st (fun t k => st1 t k) ?_
  show Go _ _ _ _ (T1.setTop (mkF m 11 #[rv xs, rv zs, .unset] [(.int 1)]))
  refine go_st (fun t k => XS.ifNo X1.here hx rfl (hb hby d30_11) rfl ((if0 _ _).trans (feq ((by decide) : ¬ ((1 : Int32) = (0 : Int32)))).1) k) ?_
  show Go _ _ _ _ (T1.setTop (mkF m 14 #[rv xs, rv zs, .unset] []))
  refine go_st (fun t k => XS.aloadN X1.here hx rfl (hb hby d30_14) rfl rfl k) ?_
  show Go _ _ _ _ (T1.setTop (mkF m 15 #[rv xs, rv zs, .unset] [(.ref zs)]))
  obtain ⟨T2, X2, e2, st2⟩ := castY X1 hx hZ hown (w154 hw) e1 (Ins.self H4) (g := (mkF m 15 #[rv xs, rv zs, .unset] [(.ref zs)])) rfl rfl (hb hby d30_15)
  refine go_st (fun t k => st2 t k) ?_
  refine go_st (fun t k => XS.astoreN X2.here hx rfl (hb hby d30_18) rfl rfl (l' := #[rv xs, rv zs, rv zs]) rfl k) ?_
  show Go _ _ _ _ (T2.setTop (mkF m 19 #[rv xs, rv zs, rv zs] []))
  obtain ⟨T3, X3, e3, st3⟩ := getS2 X2 hx hZ hown (host := "") (Or.inl (w152 hw)) Via.refl e2 (Sta.ext O0.2 CS) (g := (mkF m 19 #[rv xs, rv zs, rv zs] [])) rfl (hb hby d30_19)
  refine go_st (fun t k => st3 t k) ?_
  show Go _ _ _ _ (T3.setTop (mkF m 22 #[rv xs, rv zs, rv zs] [(.int G1)]))
  refine go_st (fun t k => XS.ifNo X3.here hx rfl (hb hby d30_22) rfl ((if0 _ _).trans (feq (CSn : ¬ (G1 = (0 : Int32)))).1) k) ?_
  show Go _ _ _ _ (T3.setTop (mkF m 25 #[rv xs, rv zs, rv zs] []))
  refine go_st (fun t k => XS.aloadN X3.here hx rfl (hb hby d30_25) rfl rfl k) ?_
  show Go _ _ _ _ (T3.setTop (mkF m 26 #[rv xs, rv zs, rv zs] [(.ref xs)]))
  obtain ⟨T4, X4, e4, st4⟩ := getF X3 hx hZ hown (host := "") (Or.inl (w73 hw)) Via.refl e3 H2 (g := (mkF m 26 #[rv xs, rv zs, rv zs] [(.ref xs)])) rfl rfl (hb hby d30_26)
  refine go_st (fun t k => st4 t k) ?_
  refine go_st (fun t k => XS.aloadN X4.here hx rfl (hb hby d30_29) rfl rfl k) ?_
  show Go _ _ _ _ (T4.setTop (mkF m 30 #[rv xs, rv zs, rv zs] [(.ref zs), (.int 0)]))
  obtain ⟨T5, X5, e5, st5⟩ := getF X4 hx hZ hown (host := "") (Or.inl (w73 hw)) Via.refl e4 H6 (g := (mkF m 30 #[rv xs, rv zs, rv zs] [(.ref zs), (.int 0)])) rfl rfl (hb hby d30_30)
  refine go_st (fun t k => st5 t k) ?_
  show Go _ _ _ _ (T5.setTop (mkF m 33 #[rv xs, rv zs, rv zs] [(.int 0), (.int 0)]))
  refine go_st (fun t k => XS.icmpNo X5.here hx rfl (hb hby d30_33) rfl (teq ((by decide) : (0 : Int32) = (0 : Int32))).2 k) ?_
  show Go _ _ _ _ (T5.setTop (mkF m 36 #[rv xs, rv zs, rv zs] []))
  refine go_st (fun t k => XS.aloadN X5.here hx rfl (hb hby d30_36) rfl rfl k) ?_
  show Go _ _ _ _ (T5.setTop (mkF m 37 #[rv xs, rv zs, rv zs] [(.ref xs)]))
  obtain ⟨T6, X6, e6, st6⟩ := getF X5 hx hZ hown (host := "") (Or.inl (w93 hw)) Via.refl e5 H1 (g := (mkF m 37 #[rv xs, rv zs, rv zs] [(.ref xs)])) rfl rfl (hb hby d30_37)
  refine go_st (fun t k => st6 t k) ?_
  refine go_st (fun t k => XS.aloadN X6.here hx rfl (hb hby d30_40) rfl rfl k) ?_
  show Go _ _ _ _ (T6.setTop (mkF m 41 #[rv xs, rv zs, rv zs] [(.ref zs), (.ref xt)]))
  obtain ⟨T7, X7, e7, st7⟩ := getF X6 hx hZ hown (host := "") (Or.inl (w93 hw)) Via.refl e6 H5 (g := (mkF m 41 #[rv xs, rv zs, rv zs] [(.ref zs), (.ref xt)])) rfl rfl (hb hby d30_41)
  refine go_st (fun t k => st7 t k) ?_
  show Go _ _ _ _ (T7.setTop (mkF m 44 #[rv xs, rv zs, rv zs] [(.ref zt), (.ref xt)]))
  obtain ⟨_, _, ⟨T8, L8, kk8, nn8⟩, -, X8, ⟨Lc8, hQ8, lq8, yq8, zq8⟩, st8⟩ := Jvm.LawKit.callS X7 hx (y := mn31) hown (mvT hZ (w171 hw)) (mvT hZ (w172 hw)) (mvT hZ (w136 hw)) (mvT hZ (w173 hw)) (by decide) (backOf (W := 0) (rm_leq1 l Z a0 hw [] xt kx y0 zt kz z0_ h0 n0 (Nat.le_trans Z0 (Nat.le_refl _)) H3 H7 heq0) hZ (w173 hw) (w136 hw) (by decide) (by decide)) (g := (mkF m 44 #[rv xs, rv zs, rv zs] [(.ref zt), (.ref xt)])) rfl (by rw [hml]; rfl) (argsL := [(.ref xt), (.ref zt)]) (rest := []) (lenOf pd_19 rfl) rfl (by show 2 * 0 + _ ≤ _; exact Nat.le_of_eq rfl) (hb hby d30_44) (fun _ _ => ⟨rfl, e7, (by decide : 0 + 0 ≤ _), (by decide : 0 + 0 ≤ _)⟩)
  dsimp only [Pt.U, Pt.locs, Pt.cells, Pt.slots] at X8 lq8 yq8 zq8 st8 hQ8
  subst lq8 yq8 zq8
  obtain ⟨h8, e8⟩ : ∃ z, T8.heap = z := ⟨_, rfl⟩
  rw [e8] at hQ8
  obtain ⟨rfl, N8q, he8⟩ := hQ8
  have N8 := Fr.app N0 N8q
  rw [he8] at e8
  refine go_st st8 ?_
  show Go _ _ _ _ (T8.setTop (mkF m 47 #[rv xs, rv zs, rv zs] [(.int 1)]))
  refine go_st (fun t k => XS.ifNo X8.here hx rfl (hb hby d30_47) rfl ((if0 _ _).trans (feq ((by decide) : ¬ ((1 : Int32) = (0 : Int32)))).1) k) ?_
  show Go _ _ _ _ (T8.setTop (mkF m 50 #[rv xs, rv zs, rv zs] []))
  refine go_st (fun t k => XS.iconst X8.here hx rfl (hb hby d30_50) k) ?_
  refine go_st (fun t k => XS.goto X8.here hx rfl (pc0 := 51) (pc' := 55) rfl (hb hby d30_51) (by decide) (by decide) k) ?_
  show Go _ _ _ _ (T8.setTop (mkF m 55 #[rv xs, rv zs, rv zs] [(.int 1)]))
  obtain ⟨fs, hr, hrun, hended, hW, hsame⟩ := X8.leave (v := some (.int 1)) (fun h => by rw [Bd.returns] at h; cases h)
  refine ⟨_, _, ?_, hrun, hended, _, _, rfl, ?_, ⟨_, rfl⟩, hW, hsame.mono (by decide) (by decide)⟩
  · exact retN X8 hx (t := .boolean) Bd.returns (by simp) (hb hby d30_55) hr
  · show Q_seq1 _ _ _ _ _ _ _ _ _ _ _ _ _ T8.heap _
    rw [e8]
    exact ⟨rfl, N8, rfl⟩
def Q_ssz (Z : State) (dg : Int32) (da : Addr) (dc : Cell) (h0 : Heap) (n0 : Nat) (vR : Option Value) (h : Heap) (L : List Loc) : Prop := vR = some (.int 1) ∧ Fr n0 L ∧ h = h0
theorem ef_ssz (m : MethodId) (x0 : Int64) : entryFrame m #[(.long x0)] 6 = mkF m 0 #[.val (.long x0), .second, .unset, .unset, .unset, .unset] [] := by first | (simp [entryFrame, mkF, argsToLocals, Value.category]; done) | rfl
set_option maxRecDepth 65536 in
set_option maxHeartbeats 40000000 in
theorem rm_ssz (l : Launch) (Z : State) (a0 : Array Value) (hw : ∀ d ∈ tables_1, d.before a0 Z = true) (ws : List Jvm.Cond) (dg : Int32) (da : Addr) (dc : Cell) (h0 : Heap) (n0 : Nat) (Z0 : n0 ≤ h0.size) (hdg : Dg dg) (DS : Sta Z Z.heap "java/lang/Integer" "DigitOnes" "[B" (.ref da)) (DA : Arr Z Z.heap da dc .byte) (DV : dc.slots.size = 100 ∧ ∀ i : Nat, i < 10 → dc.slots[i]? = some (.int (48 + Int32.ofNat i))) :
    MetFree l mn35 (head1 (Jvm.Cond.code mn35 jdk_35_method_15_code 6 (some .int) :: ws) ({ frames := 0, cells := 0, slots := 0, locals := 0 } : Room)) (fun a U => a = #[(.long dg.toInt64)] ∧ Z.Warmed39 U.vm ∧ U.heap = h0) (fun _ _ _ _ _ => True) (fun _ U o U' => ∃ v L, o = .returned v ∧ Q_ssz Z dg da dc h0 n0 v U'.heap L ∧ FrameEnd U o U' L ({ frames := 0, cells := 0, slots := 0, locals := 0 } : Room).cells ({ frames := 0, cells := 0, slots := 0, locals := 0 } : Room).slots) := by
  refine MetFree.of_bodySF (plainFor_of_name pn_java_lang_Long) hisR ?_
  intro p e s m args below meth c s₁ Bd hml0 hP hK
  obtain ⟨rfl, hZ, hh⟩ := hP
  have hx := Bd.exec
  have hby := Bd.bytes
  have hml : c.maxLocals = 6 := hml0
  have hown : s.vm.findClass "java/lang/Long" = some m.cls := findClass_of_methodNamed Bd.named
  have hnm := (name_of_methodNamed Bd.named Bd.method).1
  have X0 : Stand p l e ({ frames := 0, cells := 0, slots := 0, locals := 0 } : Room) s m #[(.long dg.toInt64)] below meth c s₁ [] 0 0 := Stand.of_body Bd
  have e0 : s₁.heap = h0 := by rw [← hh, Bd.state]; rfl
  have N0 := Fr.nil n0
  refine go_st (fun t k => castTop (ef_ssz m dg.toInt64) k) ?_
  show Go _ _ _ _ (s₁.setTop (mkF m 0 #[.val (.long dg.toInt64), .second, .unset, .unset, .unset, .unset] []))
  refine go_st (fun t k => XS.iconst X0.here hx rfl (hb hby d35_0) k) ?_
  refine go_st (fun t k => XS.istoreN X0.here hx rfl (hb hby d35_1) rfl (l' := #[.val (.long dg.toInt64), .second, iv 1, .unset, .unset, .unset]) rfl k) ?_
  refine go_st (fun t k => XS.lloadN X0.here hx rfl (hb hby d35_2) rfl k) ?_
  refine go_st (fun t k => XS.lconst X0.here hx rfl (hb hby d35_3) k) ?_
  show Go _ _ _ _ (s₁.setTop (mkF m 4 #[.val (.long dg.toInt64), .second, iv 1, .unset, .unset, .unset] [(.long 0), (.long dg.toInt64)]))
  refine go_st (fun t k => XS.lcmp X0.here hx rfl (hb hby d35_4) rfl k) ?_
  show Go _ _ _ _ (s₁.setTop (mkF m 5 #[.val (.long dg.toInt64), .second, iv 1, .unset, .unset, .unset] [(.int (lcmpW dg.toInt64 (0 : Int64)))]))
  refine go_st (fun t k => XS.ifNo X0.here hx rfl (hb hby d35_5) rfl ((if0 _ _).trans (flt ((dg_all (P := fun dg => ¬ ((lcmpW dg.toInt64 (0 : Int64)) < (0 : Int32))) hdg (by decide +kernel)) : ¬ ((lcmpW dg.toInt64 (0 : Int64)) < (0 : Int32)))).1) k) ?_
  show Go _ _ _ _ (s₁.setTop (mkF m 8 #[.val (.long dg.toInt64), .second, iv 1, .unset, .unset, .unset] []))
  refine go_st (fun t k => XS.iconst X0.here hx rfl (hb hby d35_8) k) ?_
  refine go_st (fun t k => XS.istoreN X0.here hx rfl (hb hby d35_9) rfl (l' := #[.val (.long dg.toInt64), .second, iv 0, .unset, .unset, .unset]) rfl k) ?_
  refine go_st (fun t k => XS.lloadN X0.here hx rfl (hb hby d35_10) rfl k) ?_
  show Go _ _ _ _ (s₁.setTop (mkF m 11 #[.val (.long dg.toInt64), .second, iv 0, .unset, .unset, .unset] [(.long dg.toInt64)]))
  refine go_st (fun t k => XS.lneg X0.here hx rfl (hb hby d35_11) rfl k) ?_
  show Go _ _ _ _ (s₁.setTop (mkF m 12 #[.val (.long dg.toInt64), .second, iv 0, .unset, .unset, .unset] [(.long ((-dg.toInt64)))]))
  refine go_st (fun t k => XS.lstoreN X0.here hx rfl (hb hby d35_12) rfl (l' := #[.val (.long ((-dg.toInt64))), .second, iv 0, .unset, .unset, .unset]) rfl k) ?_
  show Go _ _ _ _ (s₁.setTop (mkF m 13 #[.val (.long ((-dg.toInt64))), .second, iv 0, .unset, .unset, .unset] []))
  refine go_st (fun t k => X0.ldc2Long hx hown (mvT hZ (w192 hw)) (g := (mkF m 13 #[.val (.long ((-dg.toInt64))), .second, iv 0, .unset, .unset, .unset] [])) rfl (hb hby d35_13) t k) ?_
  show Go _ _ _ _ (s₁.setTop (mkF m 16 #[.val (.long ((-dg.toInt64))), .second, iv 0, .unset, .unset, .unset] [(.long (-10))]))
  refine go_st (fun t k => XS.lstoreN X0.here hx rfl (hb hby d35_16) rfl (l' := #[.val (.long ((-dg.toInt64))), .second, iv 0, .val (.long (-10)), .second, .unset]) rfl k) ?_
  refine go_st (fun t k => XS.iconst X0.here hx rfl (hb hby d35_17) k) ?_
  refine go_st (fun t k => XS.istore X0.here hx rfl (hb hby d35_18) rfl (l' := #[.val (.long ((-dg.toInt64))), .second, iv 0, .val (.long (-10)), .second, iv 1]) rfl k) ?_
  refine go_st (fun t k => XS.iload X0.here hx rfl (hb hby d35_20) rfl k) ?_
  refine go_st (fun t k => XS.bipush X0.here hx rfl (hb hby d35_22) k) ?_
  show Go _ _ _ _ (s₁.setTop (mkF m 24 #[.val (.long ((-dg.toInt64))), .second, iv 0, .val (.long (-10)), .second, iv 1] [(.int 19), (.int 1)]))
  refine go_st (fun t k => XS.icmpNo X0.here hx rfl (hb hby d35_24) rfl (tlt ((by decide) : (1 : Int32) < (19 : Int32))).2.1 k) ?_
  show Go _ _ _ _ (s₁.setTop (mkF m 27 #[.val (.long ((-dg.toInt64))), .second, iv 0, .val (.long (-10)), .second, iv 1] []))
  refine go_st (fun t k => XS.lloadN X0.here hx rfl (hb hby d35_27) rfl k) ?_
  refine go_st (fun t k => XS.lloadN X0.here hx rfl (hb hby d35_28) rfl k) ?_
  show Go _ _ _ _ (s₁.setTop (mkF m 29 #[.val (.long ((-dg.toInt64))), .second, iv 0, .val (.long (-10)), .second, iv 1] [(.long (-10)), (.long ((-dg.toInt64)))]))
  refine go_st (fun t k => XS.lcmp X0.here hx rfl (hb hby d35_29) rfl k) ?_
  show Go _ _ _ _ (s₁.setTop (mkF m 30 #[.val (.long ((-dg.toInt64))), .second, iv 0, .val (.long (-10)), .second, iv 1] [(.int (lcmpW ((-dg.toInt64)) (-10 : Int64)))]))
  refine go_st (fun t k => XS.ifNo X0.here hx rfl (hb hby d35_30) rfl ((if0 _ _).trans (tlt ((dg_all (P := fun dg => (0 : Int32) < (lcmpW ((-dg.toInt64)) (-10 : Int64))) hdg (by decide +kernel)) : (0 : Int32) < (lcmpW ((-dg.toInt64)) (-10 : Int64)))).2.2.2) k) ?_
  show Go _ _ _ _ (s₁.setTop (mkF m 33 #[.val (.long ((-dg.toInt64))), .second, iv 0, .val (.long (-10)), .second, iv 1] []))
  refine go_st (fun t k => XS.iload X0.here hx rfl (hb hby d35_33) rfl k) ?_
  refine go_st (fun t k => XS.iloadN X0.here hx rfl (hb hby d35_35) rfl k) ?_
  show Go _ _ _ _ (s₁.setTop (mkF m 36 #[.val (.long ((-dg.toInt64))), .second, iv 0, .val (.long (-10)), .second, iv 1] [(.int 0), (.int 1)]))
  refine go_st (fun t k => XS.iadd X0.here hx rfl (hb hby d35_36) rfl k) ?_
  rw [show ((1 : Int32) + (0 : Int32)) = (1 : Int32) from by decide]
  show Go _ _ _ _ (s₁.setTop (mkF m 37 #[.val (.long ((-dg.toInt64))), .second, iv 0, .val (.long (-10)), .second, iv 1] [(.int 1)]))
  obtain ⟨fs, hr, hrun, hended, hW, hsame⟩ := X0.leave (v := some (.int 1)) (fun h => by rw [Bd.returns] at h; cases h)
  refine ⟨_, _, ?_, hrun, hended, _, _, rfl, ?_, ⟨_, rfl⟩, hW, hsame.mono (by decide) (by decide)⟩
  · exact retI X0 hx Bd.returns (hb hby d35_37) hr
  · show Q_ssz _ _ _ _ _ _ _ s₁.heap _
    rw [e0]
    exact ⟨rfl, N0, rfl⟩
def Q_gch1 (Z : State) (va : Addr) (kv : ClassId) (u0 : Int32) (u1 : Int32) (dg : Int32) (da : Addr) (dc : Cell) (h0 : Heap) (n0 : Nat) (vR : Option Value) (h : Heap) (L : List Loc) : Prop := vR = some (.int 0) ∧ Fr n0 L ∧ Keep h0 h [va] ∧ (Arv Z h va kv .byte (16 : Int32) [(.int (48 + dg)), (.int u1)] (.int (0 : Int32)))
theorem ef_gch1 (m : MethodId) (x0 : Int64) (x1 : Int32) (x2 : Addr) : entryFrame m #[(.long x0), (.int x1), (.ref x2)] 11 = mkF m 0 #[.val (.long x0), .second, .val (.int x1), .val (.ref x2), .unset, .unset, .unset, .unset, .unset, .unset, .unset] [] := by first | (simp [entryFrame, mkF, argsToLocals, Value.category]; done) | rfl
set_option maxRecDepth 65536 in
set_option maxHeartbeats 40000000 in
theorem rm_gch1 (l : Launch) (Z : State) (a0 : Array Value) (hw : ∀ d ∈ tables_1, d.before a0 Z = true) (ws : List Jvm.Cond) (va : Addr) (kv : ClassId) (u0 : Int32) (u1 : Int32) (dg : Int32) (da : Addr) (dc : Cell) (h0 : Heap) (n0 : Nat) (Z0 : n0 ≤ h0.size) (H0 : Arv Z h0 va kv .byte (16 : Int32) [(.int u0), (.int u1)] (.int (0 : Int32))) (g_va : n0 ≤ va) (hdg : Dg dg) (DS : Sta Z Z.heap "java/lang/Integer" "DigitOnes" "[B" (.ref da)) (DA : Arr Z Z.heap da dc .byte) (DV : dc.slots.size = 100 ∧ ∀ i : Nat, i < 10 → dc.slots[i]? = some (.int (48 + Int32.ofNat i))) (O0 : Old Z n0 h0) :
    MetFree l mn36 (head1 (Jvm.Cond.code mn36 jdk_35_method_14_code 11 (some .int) :: ws) ({ frames := 0, cells := 0, slots := 0, locals := 0 } : Room)) (fun a U => a = #[(.long dg.toInt64), (.int 1), (.ref va)] ∧ Z.Warmed39 U.vm ∧ U.heap = h0) (fun _ _ _ _ _ => True) (fun _ U o U' => ∃ v L, o = .returned v ∧ Q_gch1 Z va kv u0 u1 dg da dc h0 n0 v U'.heap L ∧ FrameEnd U o U' L ({ frames := 0, cells := 0, slots := 0, locals := 0 } : Room).cells ({ frames := 0, cells := 0, slots := 0, locals := 0 } : Room).slots) := by
  refine MetFree.of_bodySF (plainFor_of_name pn_java_lang_Long) hisR ?_
  intro p e s m args below meth c s₁ Bd hml0 hP hK
  obtain ⟨rfl, hZ, hh⟩ := hP
  have hx := Bd.exec
  have hby := Bd.bytes
  have hml : c.maxLocals = 11 := hml0
  have hown : s.vm.findClass "java/lang/Long" = some m.cls := findClass_of_methodNamed Bd.named
  have hnm := (name_of_methodNamed Bd.named Bd.method).1
  have X0 : Stand p l e ({ frames := 0, cells := 0, slots := 0, locals := 0 } : Room) s m #[(.long dg.toInt64), (.int 1), (.ref va)] below meth c s₁ [] 0 0 := Stand.of_body Bd
  have e0 : s₁.heap = h0 := by rw [← hh, Bd.state]; rfl
  have N0 := Fr.nil n0
  refine go_st (fun t k => castTop (ef_gch1 m dg.toInt64 (1 : Int32) va) k) ?_
  show Go _ _ _ _ (s₁.setTop (mkF m 0 #[.val (.long dg.toInt64), .second, iv 1, rv va, .unset, .unset, .unset, .unset, .unset, .unset, .unset] []))
  refine go_st (fun t k => XS.iloadN X0.here hx rfl (hb hby d36_0) rfl k) ?_
  refine go_st (fun t k => XS.istore X0.here hx rfl (hb hby d36_1) rfl (l' := #[.val (.long dg.toInt64), .second, iv 1, rv va, .unset, .unset, .unset, iv 1, .unset, .unset, .unset]) rfl k) ?_
  refine go_st (fun t k => XS.lloadN X0.here hx rfl (hb hby d36_3) rfl k) ?_
  refine go_st (fun t k => XS.lconst X0.here hx rfl (hb hby d36_4) k) ?_
  show Go _ _ _ _ (s₁.setTop (mkF m 5 #[.val (.long dg.toInt64), .second, iv 1, rv va, .unset, .unset, .unset, iv 1, .unset, .unset, .unset] [(.long 0), (.long dg.toInt64)]))
  refine go_st (fun t k => XS.lcmp X0.here hx rfl (hb hby d36_5) rfl k) ?_
  show Go _ _ _ _ (s₁.setTop (mkF m 6 #[.val (.long dg.toInt64), .second, iv 1, rv va, .unset, .unset, .unset, iv 1, .unset, .unset, .unset] [(.int (lcmpW dg.toInt64 (0 : Int64)))]))
  refine go_st (fun t k => XS.ifYes X0.here hx rfl (pc0 := 6) (pc' := 13) rfl (hb hby d36_6) rfl ((if0 _ _).trans (flt ((dg_all (P := fun dg => ¬ ((lcmpW dg.toInt64 (0 : Int64)) < (0 : Int32))) hdg (by decide +kernel)) : ¬ ((lcmpW dg.toInt64 (0 : Int64)) < (0 : Int32)))).2.1) (by decide) (by decide) k) ?_
  show Go _ _ _ _ (s₁.setTop (mkF m 13 #[.val (.long dg.toInt64), .second, iv 1, rv va, .unset, .unset, .unset, iv 1, .unset, .unset, .unset] []))
  refine go_st (fun t k => XS.iconst X0.here hx rfl (hb hby d36_13) k) ?_
  refine go_st (fun t k => XS.istore X0.here hx rfl (hb hby d36_14) rfl (l' := #[.val (.long dg.toInt64), .second, iv 1, rv va, .unset, .unset, .unset, iv 1, iv 0, .unset, .unset]) rfl k) ?_
  refine go_st (fun t k => XS.iload X0.here hx rfl (hb hby d36_16) rfl k) ?_
  show Go _ _ _ _ (s₁.setTop (mkF m 18 #[.val (.long dg.toInt64), .second, iv 1, rv va, .unset, .unset, .unset, iv 1, iv 0, .unset, .unset] [(.int 0)]))
  refine go_st (fun t k => XS.ifNo X0.here hx rfl (hb hby d36_18) rfl ((if0 _ _).trans (teq ((by decide) : (0 : Int32) = (0 : Int32))).2) k) ?_
  show Go _ _ _ _ (s₁.setTop (mkF m 21 #[.val (.long dg.toInt64), .second, iv 1, rv va, .unset, .unset, .unset, iv 1, iv 0, .unset, .unset] []))
  refine go_st (fun t k => XS.lloadN X0.here hx rfl (hb hby d36_21) rfl k) ?_
  show Go _ _ _ _ (s₁.setTop (mkF m 22 #[.val (.long dg.toInt64), .second, iv 1, rv va, .unset, .unset, .unset, iv 1, iv 0, .unset, .unset] [(.long dg.toInt64)]))
  refine go_st (fun t k => XS.lneg X0.here hx rfl (hb hby d36_22) rfl k) ?_
  show Go _ _ _ _ (s₁.setTop (mkF m 23 #[.val (.long dg.toInt64), .second, iv 1, rv va, .unset, .unset, .unset, iv 1, iv 0, .unset, .unset] [(.long ((-dg.toInt64)))]))
  refine go_st (fun t k => XS.lstoreN X0.here hx rfl (hb hby d36_23) rfl (l' := #[.val (.long ((-dg.toInt64))), .second, iv 1, rv va, .unset, .unset, .unset, iv 1, iv 0, .unset, .unset]) rfl k) ?_
  refine go_st (fun t k => XS.lloadN X0.here hx rfl (hb hby d36_24) rfl k) ?_
  show Go _ _ _ _ (s₁.setTop (mkF m 25 #[.val (.long ((-dg.toInt64))), .second, iv 1, rv va, .unset, .unset, .unset, iv 1, iv 0, .unset, .unset] [(.long ((-dg.toInt64)))]))
  refine go_st (fun t k => X0.ldc2Long hx hown (mvT hZ (w196 hw)) (g := (mkF m 25 #[.val (.long ((-dg.toInt64))), .second, iv 1, rv va, .unset, .unset, .unset, iv 1, iv 0, .unset, .unset] [(.long ((-dg.toInt64)))])) rfl (hb hby d36_25) t k) ?_
  show Go _ _ _ _ (s₁.setTop (mkF m 28 #[.val (.long ((-dg.toInt64))), .second, iv 1, rv va, .unset, .unset, .unset, iv 1, iv 0, .unset, .unset] [(.long (-2147483648)), (.long ((-dg.toInt64)))]))
  refine go_st (fun t k => XS.lcmp X0.here hx rfl (hb hby d36_28) rfl k) ?_
  show Go _ _ _ _ (s₁.setTop (mkF m 29 #[.val (.long ((-dg.toInt64))), .second, iv 1, rv va, .unset, .unset, .unset, iv 1, iv 0, .unset, .unset] [(.int (lcmpW ((-dg.toInt64)) (-2147483648 : Int64)))]))
  refine go_st (fun t k => XS.ifYes X0.here hx rfl (pc0 := 29) (pc' := 82) rfl (hb hby d36_29) rfl ((if0 _ _).trans (tlt ((dg_all (P := fun dg => (0 : Int32) < (lcmpW ((-dg.toInt64)) (-2147483648 : Int64))) hdg (by decide +kernel)) : (0 : Int32) < (lcmpW ((-dg.toInt64)) (-2147483648 : Int64)))).2.2.1) (by decide) (by decide) k) ?_
  show Go _ _ _ _ (s₁.setTop (mkF m 82 #[.val (.long ((-dg.toInt64))), .second, iv 1, rv va, .unset, .unset, .unset, iv 1, iv 0, .unset, .unset] []))
  refine go_st (fun t k => XS.lloadN X0.here hx rfl (hb hby d36_82) rfl k) ?_
  show Go _ _ _ _ (s₁.setTop (mkF m 83 #[.val (.long ((-dg.toInt64))), .second, iv 1, rv va, .unset, .unset, .unset, iv 1, iv 0, .unset, .unset] [(.long ((-dg.toInt64)))]))
  refine go_st (fun t k => XS.l2i X0.here hx rfl (hb hby d36_83) rfl k) ?_
  refine go_st (fun t k => XS.istore X0.here hx rfl (hb hby d36_84) rfl (l' := #[.val (.long ((-dg.toInt64))), .second, iv 1, rv va, .unset, .unset, .unset, iv 1, iv 0, .unset, iv ((((-dg.toInt64))).toInt32)]) rfl k) ?_
  refine go_st (fun t k => XS.iload X0.here hx rfl (hb hby d36_86) rfl k) ?_
  refine go_st (fun t k => XS.bipush X0.here hx rfl (hb hby d36_88) k) ?_
  show Go _ _ _ _ (s₁.setTop (mkF m 90 #[.val (.long ((-dg.toInt64))), .second, iv 1, rv va, .unset, .unset, .unset, iv 1, iv 0, .unset, iv ((((-dg.toInt64))).toInt32)] [(.int (-100)), (.int ((((-dg.toInt64))).toInt32))]))
  refine go_st (fun t k => XS.icmpYes X0.here hx rfl (pc0 := 90) (pc' := 143) rfl (hb hby d36_90) rfl (tlt ((dg_all (P := fun dg => (-100 : Int32) < ((((-dg.toInt64))).toInt32)) hdg (by decide +kernel)) : (-100 : Int32) < ((((-dg.toInt64))).toInt32))).2.2.1 (by decide) (by decide) k) ?_
  show Go _ _ _ _ (s₁.setTop (mkF m 143 #[.val (.long ((-dg.toInt64))), .second, iv 1, rv va, .unset, .unset, .unset, iv 1, iv 0, .unset, iv ((((-dg.toInt64))).toInt32)] []))
  refine go_st (fun t k => XS.aloadN X0.here hx rfl (hb hby d36_143) rfl rfl k) ?_
  show Go _ _ _ _ (s₁.setTop (mkF m 144 #[.val (.long ((-dg.toInt64))), .second, iv 1, rv va, .unset, .unset, .unset, iv 1, iv 0, .unset, iv ((((-dg.toInt64))).toInt32)] [(.ref va)]))
  refine go_st (fun t k => XS.iinc X0.here hx rfl (hb hby d36_144) rfl (l' := #[.val (.long ((-dg.toInt64))), .second, iv 1, rv va, .unset, .unset, .unset, iv ((1 : Int32) + (-1 : Int32)), iv 0, .unset, iv ((((-dg.toInt64))).toInt32)]) rfl k) ?_
  rw [show ((1 : Int32) + (-1 : Int32)) = (0 : Int32) from by decide]
  show Go _ _ _ _ (s₁.setTop (mkF m 147 #[.val (.long ((-dg.toInt64))), .second, iv 1, rv va, .unset, .unset, .unset, iv 0, iv 0, .unset, iv ((((-dg.toInt64))).toInt32)] [(.ref va)]))
  refine go_st (fun t k => XS.iload X0.here hx rfl (hb hby d36_147) rfl k) ?_
  show Go _ _ _ _ (s₁.setTop (mkF m 149 #[.val (.long ((-dg.toInt64))), .second, iv 1, rv va, .unset, .unset, .unset, iv 0, iv 0, .unset, iv ((((-dg.toInt64))).toInt32)] [(.int 0), (.ref va)]))
  obtain ⟨T1, X1, e1, st1⟩ := getS2 X0 hx hZ hown (host := "") (Or.inl (w197 hw)) Via.refl e0 (Sta.ext O0.2 DS) (g := (mkF m 149 #[.val (.long ((-dg.toInt64))), .second, iv 1, rv va, .unset, .unset, .unset, iv 0, iv 0, .unset, iv ((((-dg.toInt64))).toInt32)] [(.int 0), (.ref va)])) rfl (hb hby d36_149)
  refine go_st (fun t k => st1 t k) ?_
  refine go_st (fun t k => XS.iload X1.here hx rfl (hb hby d36_152) rfl k) ?_
  show Go _ _ _ _ (T1.setTop (mkF m 154 #[.val (.long ((-dg.toInt64))), .second, iv 1, rv va, .unset, .unset, .unset, iv 0, iv 0, .unset, iv ((((-dg.toInt64))).toInt32)] [(.int ((((-dg.toInt64))).toInt32)), (.ref da), (.int 0), (.ref va)]))
  refine go_st (fun t k => XS.ineg X1.here hx rfl (hb hby d36_154) rfl k) ?_
  show Go _ _ _ _ (T1.setTop (mkF m 155 #[.val (.long ((-dg.toInt64))), .second, iv 1, rv va, .unset, .unset, .unset, iv 0, iv 0, .unset, iv ((((-dg.toInt64))).toInt32)] [(.int (-((((-dg.toInt64))).toInt32))), (.ref da), (.int 0), (.ref va)]))
  have hjd : (-((((-dg.toInt64))).toInt32)) = dg := dg_all (P := fun dg => (-((((-dg.toInt64))).toInt32)) = dg) hdg (by decide +kernel)
  rw [hjd]
  show Go _ _ _ _ (T1.setTop (mkF m 155 #[.val (.long ((-dg.toInt64))), .second, iv 1, rv va, .unset, .unset, .unset, iv 0, iv 0, .unset, iv ((((-dg.toInt64))).toInt32)] [(.int dg), (.ref da), (.int 0), (.ref va)]))
  have hin : ¬ (dg < 0 ∨ dc.slots.size ≤ (dg).toNatClampNeg) := by rw [DV.1]; exact dg_all (P := fun dg => ¬ (dg < 0 ∨ 100 ≤ (dg).toNatClampNeg)) hdg (by decide +kernel)
  have hat : dc.slots[(dg).toNatClampNeg]? = some (.int (48 + dg)) := by have q := DV.2 dg.toNatClampNeg (dg_all (P := fun dg => dg.toNatClampNeg < 10) hdg (by decide +kernel)); rw [dg_all (P := fun dg => Int32.ofNat dg.toNatClampNeg = dg) hdg (by decide +kernel)] at q; exact q
  have DAn := DA.ext O0.2
  refine go_st (fun t k => X1.baloadBytes hx (j := dg) (v := (.int (48 + dg))) (by rw [e1]; exact DAn.1) (State.isArrayOf_alike hZ.alike DAn.2.1) DAn.2.2 hin hat (g := (mkF m 155 #[.val (.long ((-dg.toInt64))), .second, iv 1, rv va, .unset, .unset, .unset, iv 0, iv 0, .unset, iv ((((-dg.toInt64))).toInt32)] [(.int dg), (.ref da), (.int 0), (.ref va)])) rfl rfl (hb hby d36_155) t k) ?_
  show Go _ _ _ _ (T1.setTop (mkF m 156 #[.val (.long ((-dg.toInt64))), .second, iv 1, rv va, .unset, .unset, .unset, iv 0, iv 0, .unset, iv ((((-dg.toInt64))).toInt32)] [(.int (48 + dg)), (.int 0), (.ref va)]))
  obtain ⟨zc2, zA2, zq2, zS2, zN2, zH2, zG2⟩ := id H0
  have hin2 : ¬ ((0 : Int32) < 0 ∨ zc2.slots.size ≤ ((0 : Int32)).toNatClampNeg) := inb_of zS2 ⟨by decide, by decide⟩
  obtain ⟨T2, h2, X2, e2, W2, st2⟩ := stB X1 hx hZ e1 zA2 (j := (0 : Int32)) hin2 (g := (mkF m 156 #[.val (.long ((-dg.toInt64))), .second, iv 1, rv va, .unset, .unset, .unset, iv 0, iv 0, .unset, iv ((((-dg.toInt64))).toInt32)] [(.int (48 + dg)), (.int 0), (.ref va)])) rfl rfl (hb hby d36_156)
  have N2 := Fr.snoc X2 N0 g_va
  have f3 : Arv Z h2 va kv .byte (16 : Int32) [(.int (nar .byte (48 + dg))), (.int u1)] (.int (0 : Int32)) := Arv.set zA2 zq2 zS2 zN2 zH2 zG2 (fits_nar_byte _) W2 0 rfl (Nat.le_of_ble_eq_true rfl)
  refine go_st (fun t k => st2 t k) ?_
  show Go _ _ _ _ (T2.setTop (mkF m 157 #[.val (.long ((-dg.toInt64))), .second, iv 1, rv va, .unset, .unset, .unset, iv 0, iv 0, .unset, iv ((((-dg.toInt64))).toInt32)] []))
  have hnb : nar .byte (48 + dg) = 48 + dg := dg_all (P := fun dg => nar .byte (48 + dg) = 48 + dg) hdg (by decide +kernel)
  have f4 : Arv Z h2 va kv .byte (16 : Int32) [(.int (48 + dg)), (.int u1)] (.int (0 : Int32)) := by have q := f3; rw [hnb] at q; exact q
  refine go_st (fun t k => XS.iload X2.here hx rfl (hb hby d36_157) rfl k) ?_
  refine go_st (fun t k => XS.bipush X2.here hx rfl (hb hby d36_159) k) ?_
  show Go _ _ _ _ (T2.setTop (mkF m 161 #[.val (.long ((-dg.toInt64))), .second, iv 1, rv va, .unset, .unset, .unset, iv 0, iv 0, .unset, iv ((((-dg.toInt64))).toInt32)] [(.int (-9)), (.int ((((-dg.toInt64))).toInt32))]))
  refine go_st (fun t k => XS.icmpYes X2.here hx rfl (pc0 := 161) (pc' := 178) rfl (hb hby d36_161) rfl (flt ((dg_all (P := fun dg => ¬ (((((-dg.toInt64))).toInt32) < (-9 : Int32))) hdg (by decide +kernel)) : ¬ (((((-dg.toInt64))).toInt32) < (-9 : Int32)))).2.1 (by decide) (by decide) k) ?_
  show Go _ _ _ _ (T2.setTop (mkF m 178 #[.val (.long ((-dg.toInt64))), .second, iv 1, rv va, .unset, .unset, .unset, iv 0, iv 0, .unset, iv ((((-dg.toInt64))).toInt32)] []))
  refine go_st (fun t k => XS.iload X2.here hx rfl (hb hby d36_178) rfl k) ?_
  show Go _ _ _ _ (T2.setTop (mkF m 180 #[.val (.long ((-dg.toInt64))), .second, iv 1, rv va, .unset, .unset, .unset, iv 0, iv 0, .unset, iv ((((-dg.toInt64))).toInt32)] [(.int 0)]))
  refine go_st (fun t k => XS.ifYes X2.here hx rfl (pc0 := 180) (pc' := 192) rfl (hb hby d36_180) rfl ((if0 _ _).trans (teq ((by decide) : (0 : Int32) = (0 : Int32))).1) (by decide) (by decide) k) ?_
  show Go _ _ _ _ (T2.setTop (mkF m 192 #[.val (.long ((-dg.toInt64))), .second, iv 1, rv va, .unset, .unset, .unset, iv 0, iv 0, .unset, iv ((((-dg.toInt64))).toInt32)] []))
  refine go_st (fun t k => XS.iload X2.here hx rfl (hb hby d36_192) rfl k) ?_
  show Go _ _ _ _ (T2.setTop (mkF m 194 #[.val (.long ((-dg.toInt64))), .second, iv 1, rv va, .unset, .unset, .unset, iv 0, iv 0, .unset, iv ((((-dg.toInt64))).toInt32)] [(.int 0)]))
  have ke5 : Keep h0 h2 [va] := (Keep.wr (Keep.refl h0 [va]) W2 (Or.inl (List.mem_of_getElem? (i := 0) rfl)))
  obtain ⟨fs, hr, hrun, hended, hW, hsame⟩ := X2.leave (v := some (.int 0)) (fun h => by rw [Bd.returns] at h; cases h)
  refine ⟨_, _, ?_, hrun, hended, _, _, rfl, ?_, ⟨_, rfl⟩, hW, hsame.mono (by decide) (by decide)⟩
  · exact retI X2 hx Bd.returns (hb hby d36_194) hr
  · show Q_gch1 _ _ _ _ _ _ _ _ _ _ _ T2.heap _
    rw [e2]
    exact ⟨rfl, N2, ke5, f4⟩
def Q_asbapj0 (Z : State) (sb : Addr) (va : Addr) (kv : ClassId) (u0 : Int32) (u1 : Int32) (ml : Int32) (dg : Int32) (da : Addr) (dc : Cell) (G1 : Int32) (h0 : Heap) (n0 : Nat) (vR : Option Value) (h : Heap) (L : List Loc) : Prop := vR = some (.ref sb) ∧ Fr n0 L ∧ Keep h0 h [sb, va] ∧ (Exa Z h sb cSB) ∧ (Fld Z h sb cAS "value" "[B" (.ref va)) ∧ (Fld Z h sb cAS "coder" "B" (.int 0)) ∧ (Fld Z h sb cAS "count" "I" (.int 1)) ∧ (Fld Z h sb cAS "maybeLatin1" "Z" (.int ml)) ∧ (Arv Z h va kv .byte (16 : Int32) [(.int (48 + dg)), (.int u1)] (.int (0 : Int32)))
theorem ef_asbapj0 (m : MethodId) (x0 : Addr) (x1 : Int64) : entryFrame m #[(.ref x0), (.long x1)] 5 = mkF m 0 #[.val (.ref x0), .val (.long x1), .second, .unset, .unset] [] := by first | (simp [entryFrame, mkF, argsToLocals, Value.category]; done) | rfl
set_option maxRecDepth 65536 in
set_option maxHeartbeats 40000000 in
theorem rm_asbapj0 (l : Launch) (Z : State) (a0 : Array Value) (hw : ∀ d ∈ tables_1, d.before a0 Z = true) (ws : List Jvm.Cond) (sb : Addr) (va : Addr) (kv : ClassId) (u0 : Int32) (u1 : Int32) (ml : Int32) (dg : Int32) (da : Addr) (dc : Cell) (G1 : Int32) (h0 : Heap) (n0 : Nat) (Z0 : n0 ≤ h0.size) (H0 : Exa Z h0 sb cSB) (H1 : Fld Z h0 sb cAS "value" "[B" (.ref va)) (H2 : Fld Z h0 sb cAS "coder" "B" (.int 0)) (H3 : Fld Z h0 sb cAS "count" "I" (.int 0)) (H4 : Fld Z h0 sb cAS "maybeLatin1" "Z" (.int ml)) (H5 : Arv Z h0 va kv .byte (16 : Int32) [(.int u0), (.int u1)] (.int (0 : Int32))) (g_sb : n0 ≤ sb) (g_va : n0 ≤ va) (hdg : Dg dg) (DS : Sta Z Z.heap "java/lang/Integer" "DigitOnes" "[B" (.ref da)) (DA : Arr Z Z.heap da dc .byte) (DV : dc.slots.size = 100 ∧ ∀ i : Nat, i < 10 → dc.slots[i]? = some (.int (48 + Int32.ofNat i))) (CS : Sta Z Z.heap "java/lang/String" "COMPACT_STRINGS" "Z" (.int G1)) (CSn : ¬ (G1 = (0 : Int32))) (O0 : Old Z n0 h0) :
    MetFree l mn34 (head1 (Jvm.Cond.code mn34 jdk_68_method_33_code 5 (some (.object "java/lang/AbstractStringBuilder")) :: ws) ({ frames := 1, cells := 0, slots := 0, locals := 22 } : Room)) (fun a U => a = #[(.ref sb), (.long dg.toInt64)] ∧ Z.Warmed39 U.vm ∧ U.heap = h0) (fun _ _ _ _ _ => True) (fun _ U o U' => ∃ v L, o = .returned v ∧ Q_asbapj0 Z sb va kv u0 u1 ml dg da dc G1 h0 n0 v U'.heap L ∧ FrameEnd U o U' L ({ frames := 1, cells := 0, slots := 0, locals := 22 } : Room).cells ({ frames := 1, cells := 0, slots := 0, locals := 22 } : Room).slots) := by
  refine MetFree.of_bodySF (plainFor_of_name pn_java_lang_AbstractStringBuilder) hisR ?_
  intro p e s m args below meth c s₁ Bd hml0 hP hK
  obtain ⟨rfl, hZ, hh⟩ := hP
  have hx := Bd.exec
  have hby := Bd.bytes
  have hml : c.maxLocals = 5 := hml0
  have hown : s.vm.findClass "java/lang/AbstractStringBuilder" = some m.cls := findClass_of_methodNamed Bd.named
  have hnm := (name_of_methodNamed Bd.named Bd.method).1
  have X0 : Stand p l e ({ frames := 1, cells := 0, slots := 0, locals := 22 } : Room) s m #[(.ref sb), (.long dg.toInt64)] below meth c s₁ [] 0 0 := Stand.of_body Bd
  have e0 : s₁.heap = h0 := by rw [← hh, Bd.state]; rfl
  have N0 := Fr.nil n0
  refine go_st (fun t k => castTop (ef_asbapj0 m sb dg.toInt64) k) ?_
  show Go _ _ _ _ (s₁.setTop (mkF m 0 #[rv sb, .val (.long dg.toInt64), .second, .unset, .unset] []))
  refine go_st (fun t k => XS.aloadN X0.here hx rfl (hb hby d34_0) rfl rfl k) ?_
  show Go _ _ _ _ (s₁.setTop (mkF m 1 #[rv sb, .val (.long dg.toInt64), .second, .unset, .unset] [(.ref sb)]))
  obtain ⟨T1, X1, e1, st1⟩ := getF X0 hx hZ hown (host := "") (Or.inl (w66 hw)) Via.refl e0 H3 (g := (mkF m 1 #[rv sb, .val (.long dg.toInt64), .second, .unset, .unset] [(.ref sb)])) rfl rfl (hb hby d34_1)
  refine go_st (fun t k => st1 t k) ?_
  refine go_st (fun t k => XS.istoreN X1.here hx rfl (hb hby d34_4) rfl (l' := #[rv sb, .val (.long dg.toInt64), .second, iv 0, .unset]) rfl k) ?_
  refine go_st (fun t k => XS.iloadN X1.here hx rfl (hb hby d34_5) rfl k) ?_
  refine go_st (fun t k => XS.lloadN X1.here hx rfl (hb hby d34_6) rfl k) ?_
  show Go _ _ _ _ (T1.setTop (mkF m 7 #[rv sb, .val (.long dg.toInt64), .second, iv 0, .unset] [(.long dg.toInt64), (.int 0)]))
  obtain ⟨_, _, ⟨T2, L2, kk2, nn2⟩, -, X2, ⟨Lc2, hQ2, lq2, yq2, zq2⟩, st2⟩ := Jvm.LawKit.callS X1 hx (y := mn35) hown (mvT hZ (w188 hw)) (mvT hZ (w189 hw)) (mvT hZ (w190 hw)) (mvT hZ (w191 hw)) (by decide) (backOf (W := 1) (rm_ssz l Z a0 hw [] dg da dc h0 n0 (Nat.le_trans Z0 (Nat.le_refl _)) hdg DS DA DV) hZ (w191 hw) (w190 hw) (by decide) (by decide)) (g := (mkF m 7 #[rv sb, .val (.long dg.toInt64), .second, iv 0, .unset] [(.long dg.toInt64), (.int 0)])) rfl (by rw [hml]; rfl) (argsL := [(.long dg.toInt64)]) (rest := [(.int 0)]) (lenOf pd_21 rfl) rfl (by show 2 * 0 + _ ≤ _; exact Nat.le_of_eq rfl) (hb hby d34_7) (fun _ _ => ⟨rfl, e1, (by decide : 0 + 0 ≤ _), (by decide : 0 + 0 ≤ _)⟩)
  dsimp only [Pt.U, Pt.locs, Pt.cells, Pt.slots] at X2 lq2 yq2 zq2 st2 hQ2
  subst lq2 yq2 zq2
  obtain ⟨h2, e2⟩ : ∃ z, T2.heap = z := ⟨_, rfl⟩
  rw [e2] at hQ2
  obtain ⟨rfl, N2q, he2⟩ := hQ2
  have N2 := Fr.app N0 N2q
  rw [he2] at e2
  refine go_st st2 ?_
  show Go _ _ _ _ (T2.setTop (mkF m 10 #[rv sb, .val (.long dg.toInt64), .second, iv 0, .unset] [(.int 1), (.int 0)]))
  refine go_st (fun t k => XS.iadd X2.here hx rfl (hb hby d34_10) rfl k) ?_
  rw [show ((0 : Int32) + (1 : Int32)) = (1 : Int32) from by decide]
  show Go _ _ _ _ (T2.setTop (mkF m 11 #[rv sb, .val (.long dg.toInt64), .second, iv 0, .unset] [(.int 1)]))
  refine go_st (fun t k => XS.istore X2.here hx rfl (hb hby d34_11) rfl (l' := #[rv sb, .val (.long dg.toInt64), .second, iv 0, iv 1]) rfl k) ?_
  refine go_st (fun t k => XS.aloadN X2.here hx rfl (hb hby d34_13) rfl rfl k) ?_
  refine go_st (fun t k => XS.iload X2.here hx rfl (hb hby d34_14) rfl k) ?_
  show Go _ _ _ _ (T2.setTop (mkF m 16 #[rv sb, .val (.long dg.toInt64), .second, iv 0, iv 1] [(.int 1), (.ref sb)]))
  obtain ⟨cq3, q3, q3'⟩ := H0.cell
  obtain ⟨_, _, ⟨T3, L3, kk3, nn3⟩, -, X3, ⟨Lc3, hQ3, lq3, yq3, zq3⟩, st3⟩ := X2.privateBack hx (y := mn17) hown (mvT hZ (w104 hw)) (mvT hZ (w105 hw)) (mvT hZ (sel_priv (w106 hw) (w105 hw) (nf_same (y := mn17) (y' := mn7) rfl (w54 hw) (notFace_of_selects (w55 hw))) (by decide))) (Cond.privateMethod_at (mvP hZ (w106 hw) (args := #[]))) (mvT hZ (w108 hw)) (by decide) (backOf (W := 0) (rm_ens1 l Z a0 hw [] sb va kv u0 u1 h0 n0 (Nat.le_trans Z0 (Nat.le_refl _)) H1 H2 H5) hZ (w108 hw) (w20 hw) (by decide) (by decide)) (g := (mkF m 16 #[rv sb, .val (.long dg.toInt64), .second, iv 0, iv 1] [(.int 1), (.ref sb)])) rfl (by rw [hml]; rfl) (Steps.refl _) (a := sb) (by rw [e2]; exact q3) q3' (argsL := [(.int 1)]) (rest := []) (lenOf pd_0 rfl) rfl (by show 2 * 0 + _ ≤ _; exact Nat.le_of_eq rfl) (hb hby d34_16) (fun _ _ => ⟨rfl, e2, (by decide : 0 + 0 ≤ _), (by decide : 0 + 0 ≤ _)⟩)
  dsimp only [Pt.U, Pt.locs, Pt.cells, Pt.slots] at X3 lq3 yq3 zq3 st3 hQ3
  subst lq3 yq3 zq3
  obtain ⟨h3, e3⟩ : ∃ z, T3.heap = z := ⟨_, rfl⟩
  rw [e3] at hQ3
  obtain ⟨rfl, N3q, he3⟩ := hQ3
  have N3 := Fr.app N2 N3q
  rw [he3] at e3
  refine go_tr st3 ?_
  refine go_st (fun t k => XS.aloadN X3.here hx rfl (hb hby d34_19) rfl rfl k) ?_
  show Go _ _ _ _ (T3.setTop (mkF m 20 #[rv sb, .val (.long dg.toInt64), .second, iv 0, iv 1] [(.ref sb)]))
  obtain ⟨cq4, kq4, q4a, q4b, q4c⟩ := isOf hZ e3 H0
  obtain ⟨_, _, ⟨T4, L4, kk4, nn4⟩, -, X4, ⟨Lc4, hQ4, lq4, yq4, zq4⟩, st4⟩ := X3.virtualBack hx (y := mn10) (z := mn10) hown (mvT hZ (w133 hw)) (mvT hZ (w69 hw)) (nf_same (y := mn10) (y' := mn7) (a0 := #[]) rfl (mvT hZ (w54 hw)) (notFace_of_selects (args := #[]) (mvT hZ (w55 hw)))) (mvT hZ (w71 hw)) (mvT hZ (w70 hw)) (by decide) (backOf (W := 0) (rm_isl l Z a0 hw [] sb G1 h0 n0 (Nat.le_trans Z0 (Nat.le_refl _)) H2 CS CSn O0) hZ (w72 hw) (w20 hw) (by decide) (by decide)) q4a q4c (g := (mkF m 20 #[rv sb, .val (.long dg.toInt64), .second, iv 0, iv 1] [(.ref sb)])) rfl (by rw [hml]; rfl) (Steps.refl _) (argsL := []) (rest := []) (lenOf pd_4 rfl) rfl (by show 2 * 0 + _ ≤ _; exact Nat.le_of_eq rfl) (hb hby d34_20) (fun _ _ => ⟨rfl, e3, (by decide : 0 + 0 ≤ _), (by decide : 0 + 0 ≤ _)⟩)
  dsimp only [Pt.U, Pt.locs, Pt.cells, Pt.slots] at X4 lq4 yq4 zq4 st4 hQ4
  subst lq4 yq4 zq4
  obtain ⟨h4, e4⟩ : ∃ z, T4.heap = z := ⟨_, rfl⟩
  rw [e4] at hQ4
  obtain ⟨rfl, N4q, he4⟩ := hQ4
  have N4 := Fr.app N3 N4q
  rw [he4] at e4
  refine go_tr st4 ?_
  show Go _ _ _ _ (T4.setTop (mkF m 23 #[rv sb, .val (.long dg.toInt64), .second, iv 0, iv 1] [(.int 1)]))
  refine go_st (fun t k => XS.ifNo X4.here hx rfl (hb hby d34_23) rfl ((if0 _ _).trans (feq ((by decide) : ¬ ((1 : Int32) = (0 : Int32)))).1) k) ?_
  show Go _ _ _ _ (T4.setTop (mkF m 26 #[rv sb, .val (.long dg.toInt64), .second, iv 0, iv 1] []))
  refine go_st (fun t k => XS.lloadN X4.here hx rfl (hb hby d34_26) rfl k) ?_
  refine go_st (fun t k => XS.iload X4.here hx rfl (hb hby d34_27) rfl k) ?_
  refine go_st (fun t k => XS.aloadN X4.here hx rfl (hb hby d34_29) rfl rfl k) ?_
  show Go _ _ _ _ (T4.setTop (mkF m 30 #[rv sb, .val (.long dg.toInt64), .second, iv 0, iv 1] [(.ref sb), (.int 1), (.long dg.toInt64)]))
  obtain ⟨T5, X5, e5, st5⟩ := getF X4 hx hZ hown (host := "") (Or.inl (w26 hw)) Via.refl e4 H1 (g := (mkF m 30 #[rv sb, .val (.long dg.toInt64), .second, iv 0, iv 1] [(.ref sb), (.int 1), (.long dg.toInt64)])) rfl rfl (hb hby d34_30)
  refine go_st (fun t k => st5 t k) ?_
  show Go _ _ _ _ (T5.setTop (mkF m 33 #[rv sb, .val (.long dg.toInt64), .second, iv 0, iv 1] [(.ref va), (.int 1), (.long dg.toInt64)]))
  obtain ⟨_, _, ⟨T6, L6, kk6, nn6⟩, -, X6, ⟨Lc6, hQ6, lq6, yq6, zq6⟩, st6⟩ := Jvm.LawKit.callS X5 hx (y := mn36) hown (mvT hZ (w193 hw)) (mvT hZ (w194 hw)) (mvT hZ (w190 hw)) (mvT hZ (w195 hw)) (by decide) (backOf (W := 0) (rm_gch1 l Z a0 hw [] va kv u0 u1 dg da dc h0 n0 (Nat.le_trans Z0 (Nat.le_refl _)) H5 g_va hdg DS DA DV O0) hZ (w195 hw) (w190 hw) (by decide) (by decide)) (g := (mkF m 33 #[rv sb, .val (.long dg.toInt64), .second, iv 0, iv 1] [(.ref va), (.int 1), (.long dg.toInt64)])) rfl (by rw [hml]; rfl) (argsL := [(.long dg.toInt64), (.int 1), (.ref va)]) (rest := []) (lenOf pd_22 rfl) rfl (by show 2 * 0 + _ ≤ _; exact Nat.le_of_eq rfl) (hb hby d34_33) (fun _ _ => ⟨rfl, e5, (by decide : 0 + 0 ≤ _), (by decide : 0 + 0 ≤ _)⟩)
  dsimp only [Pt.U, Pt.locs, Pt.cells, Pt.slots] at X6 lq6 yq6 zq6 st6 hQ6
  subst lq6 yq6 zq6
  obtain ⟨h6, e6⟩ : ∃ z, T6.heap = z := ⟨_, rfl⟩
  rw [e6] at hQ6
  obtain ⟨rfl, N6q, K6, p6_0⟩ := hQ6
  have N6 := Fr.app N4 N6q
  refine go_st st6 ?_
  show Go _ _ _ _ (T6.setTop (mkF m 36 #[rv sb, .val (.long dg.toInt64), .second, iv 0, iv 1] [(.int 0)]))
  refine go_st (fun t k => XS.pop X6.here hx rfl (hb hby d34_36) rfl rfl k) ?_
  refine go_st (fun t k => XS.goto X6.here hx rfl (pc0 := 37) (pc' := 52) rfl (hb hby d34_37) (by decide) (by decide) k) ?_
  show Go _ _ _ _ (T6.setTop (mkF m 52 #[rv sb, .val (.long dg.toInt64), .second, iv 0, iv 1] []))
  refine go_st (fun t k => XS.aloadN X6.here hx rfl (hb hby d34_52) rfl rfl k) ?_
  refine go_st (fun t k => XS.iload X6.here hx rfl (hb hby d34_53) rfl k) ?_
  show Go _ _ _ _ (T6.setTop (mkF m 55 #[rv sb, .val (.long dg.toInt64), .second, iv 0, iv 1] [(.int 1), (.ref sb)]))
  have nq7 : sb ≠ va := Exa.neArv H0 H5 (w11 hw)
  have f8 : Fld Z h6 sb cAS "count" "I" (.int 0) := (H3.keep K6 (ninS nq7 nin0))
  have f9 : Exa Z h6 sb cSB := (H0.keep K6)
  obtain ⟨T10, h10, X10, e10, W10, st10⟩ := putF X6 hx hZ hown (host := "") (Or.inl (w66 hw)) Via.refl e6 f8 f9 (Or.inl (w67 hw)) (w11 hw) (ty := .int) (by decide) rfl rfl (g := (mkF m 55 #[rv sb, .val (.long dg.toInt64), .second, iv 0, iv 1] [(.int 1), (.ref sb)])) rfl rfl (hb hby d34_55)
  have N10 := Fr.snoc X10 N6 g_sb
  have f11 : Fld Z h10 sb cAS "count" "I" (.int 1) := f8.same W10
  refine go_st (fun t k => st10 t k) ?_
  refine go_st (fun t k => XS.aloadN X10.here hx rfl (hb hby d34_58) rfl rfl k) ?_
  show Go _ _ _ _ (T10.setTop (mkF m 59 #[rv sb, .val (.long dg.toInt64), .second, iv 0, iv 1] [(.ref sb)]))
  have f12 : Exa Z h10 sb cSB := (f9.wr W10)
  have f13 : Fld Z h10 sb cAS "value" "[B" (.ref va) := ((H1.keep K6 (ninS nq7 nin0)).other W10 (Or.inr (slot_ne (Or.inl (w27 hw)) (Or.inl (w67 hw)) (by decide) (t := (.array .byte)) (t' := .int) (by decide) (by decide))))
  have f14 : Fld Z h10 sb cAS "coder" "B" (.int 0) := ((H2.keep K6 (ninS nq7 nin0)).other W10 (Or.inr (slot_ne (Or.inl (w29 hw)) (Or.inl (w67 hw)) (by decide) (t := .byte) (t' := .int) (by decide) (by decide))))
  have f15 : Fld Z h10 sb cAS "maybeLatin1" "Z" (.int ml) := ((H4.keep K6 (ninS nq7 nin0)).other W10 (Or.inr (slot_ne (Or.inl (w139 hw)) (Or.inl (w67 hw)) (by decide) (t := .boolean) (t' := .int) (by decide) (by decide))))
  have f16 : Arv Z h10 va kv .byte (16 : Int32) [(.int (48 + dg)), (.int u1)] (.int (0 : Int32)) := (p6_0.other W10 (Ne.symm nq7))
  have ke17 : Keep h0 h6 [sb, va] := (Keep.trans (Keep.refl h0 [sb, va]) K6 (allS (Or.inl (List.mem_of_getElem? (i := 1) rfl)) all0))
  have ke18 : Keep h0 h10 [sb, va] := (Keep.wr ke17 W10 (Or.inl (List.mem_of_getElem? (i := 0) rfl)))
  obtain ⟨fs, hr, hrun, hended, hW, hsame⟩ := X10.leave (v := some (.ref sb)) (fun h => by rw [Bd.returns] at h; cases h)
  refine ⟨_, _, ?_, hrun, hended, _, _, rfl, ?_, ⟨_, rfl⟩, hW, hsame.mono (by decide) (by decide)⟩
  · exact retOut X10 hx Bd.returns rfl (Or.inr (Or.inr (Or.inr (Or.inr ⟨rfl, rfl, rfl⟩)))) (hb hby d34_59) hr
  · show Q_asbapj0 _ _ _ _ _ _ _ _ _ _ _ _ _ _ T10.heap _
    rw [e10]
    exact ⟨rfl, N10, ke18, f12, f13, f14, f11, f15, f16⟩
def Q_sbapj0 (Z : State) (sb : Addr) (va : Addr) (kv : ClassId) (u0 : Int32) (u1 : Int32) (ml : Int32) (dg : Int32) (da : Addr) (dc : Cell) (G1 : Int32) (h0 : Heap) (n0 : Nat) (vR : Option Value) (h : Heap) (L : List Loc) : Prop := vR = some (.ref sb) ∧ Fr n0 L ∧ Keep h0 h [sb, va] ∧ (Exa Z h sb cSB) ∧ (Fld Z h sb cAS "value" "[B" (.ref va)) ∧ (Fld Z h sb cAS "coder" "B" (.int 0)) ∧ (Fld Z h sb cAS "count" "I" (.int 1)) ∧ (Fld Z h sb cAS "maybeLatin1" "Z" (.int ml)) ∧ (Arv Z h va kv .byte (16 : Int32) [(.int (48 + dg)), (.int u1)] (.int (0 : Int32)))
theorem ef_sbapj0 (m : MethodId) (x0 : Addr) (x1 : Int64) : entryFrame m #[(.ref x0), (.long x1)] 3 = mkF m 0 #[.val (.ref x0), .val (.long x1), .second] [] := by first | (simp [entryFrame, mkF, argsToLocals, Value.category]; done) | rfl
set_option maxRecDepth 65536 in
set_option maxHeartbeats 40000000 in
theorem rm_sbapj0 (l : Launch) (Z : State) (a0 : Array Value) (hw : ∀ d ∈ tables_1, d.before a0 Z = true) (ws : List Jvm.Cond) (sb : Addr) (va : Addr) (kv : ClassId) (u0 : Int32) (u1 : Int32) (ml : Int32) (dg : Int32) (da : Addr) (dc : Cell) (G1 : Int32) (h0 : Heap) (n0 : Nat) (Z0 : n0 ≤ h0.size) (H0 : Exa Z h0 sb cSB) (H1 : Fld Z h0 sb cAS "value" "[B" (.ref va)) (H2 : Fld Z h0 sb cAS "coder" "B" (.int 0)) (H3 : Fld Z h0 sb cAS "count" "I" (.int 0)) (H4 : Fld Z h0 sb cAS "maybeLatin1" "Z" (.int ml)) (H5 : Arv Z h0 va kv .byte (16 : Int32) [(.int u0), (.int u1)] (.int (0 : Int32))) (g_sb : n0 ≤ sb) (g_va : n0 ≤ va) (hdg : Dg dg) (DS : Sta Z Z.heap "java/lang/Integer" "DigitOnes" "[B" (.ref da)) (DA : Arr Z Z.heap da dc .byte) (DV : dc.slots.size = 100 ∧ ∀ i : Nat, i < 10 → dc.slots[i]? = some (.int (48 + Int32.ofNat i))) (CS : Sta Z Z.heap "java/lang/String" "COMPACT_STRINGS" "Z" (.int G1)) (CSn : ¬ (G1 = (0 : Int32))) (O0 : Old Z n0 h0) :
    MetFree l mn33 (head1 (Jvm.Cond.code mn33 jdk_67_method_16_code 3 (some (.object "java/lang/StringBuilder")) :: ws) ({ frames := 2, cells := 0, slots := 0, locals := 38 } : Room)) (fun a U => a = #[(.ref sb), (.long dg.toInt64)] ∧ Z.Warmed39 U.vm ∧ U.heap = h0) (fun _ _ _ _ _ => True) (fun _ U o U' => ∃ v L, o = .returned v ∧ Q_sbapj0 Z sb va kv u0 u1 ml dg da dc G1 h0 n0 v U'.heap L ∧ FrameEnd U o U' L ({ frames := 2, cells := 0, slots := 0, locals := 38 } : Room).cells ({ frames := 2, cells := 0, slots := 0, locals := 38 } : Room).slots) := by
  refine MetFree.of_bodySF (plainFor_of_name pn_java_lang_StringBuilder) hisR ?_
  intro p e s m args below meth c s₁ Bd hml0 hP hK
  obtain ⟨rfl, hZ, hh⟩ := hP
  have hx := Bd.exec
  have hby := Bd.bytes
  have hml : c.maxLocals = 3 := hml0
  have hown : s.vm.findClass "java/lang/StringBuilder" = some m.cls := findClass_of_methodNamed Bd.named
  have hnm := (name_of_methodNamed Bd.named Bd.method).1
  have X0 : Stand p l e ({ frames := 2, cells := 0, slots := 0, locals := 38 } : Room) s m #[(.ref sb), (.long dg.toInt64)] below meth c s₁ [] 0 0 := Stand.of_body Bd
  have e0 : s₁.heap = h0 := by rw [← hh, Bd.state]; rfl
  have N0 := Fr.nil n0
  refine go_st (fun t k => castTop (ef_sbapj0 m sb dg.toInt64) k) ?_
  show Go _ _ _ _ (s₁.setTop (mkF m 0 #[rv sb, .val (.long dg.toInt64), .second] []))
  refine go_st (fun t k => XS.aloadN X0.here hx rfl (hb hby d33_0) rfl rfl k) ?_
  refine go_st (fun t k => XS.lloadN X0.here hx rfl (hb hby d33_1) rfl k) ?_
  show Go _ _ _ _ (s₁.setTop (mkF m 2 #[rv sb, .val (.long dg.toInt64), .second] [(.long dg.toInt64), (.ref sb)]))
  obtain ⟨_, _, ⟨T1, L1, kk1, nn1⟩, -, X1, ⟨Lc1, hQ1, lq1, yq1, zq1⟩, st1⟩ := superBack X0 hx hZ (y := mn34) hown (w184 hw) (same_self (w185 hw) (nf_same (y := mn34) (y' := mn7) rfl (w54 hw) (notFace_of_selects (w55 hw))) (by decide)) (w185 hw) (w64 hw) (by decide) (backOf (W := 0) (rm_asbapj0 l Z a0 hw [] sb va kv u0 u1 ml dg da dc G1 h0 n0 (Nat.le_trans Z0 (Nat.le_refl _)) H0 H1 H2 H3 H4 H5 g_sb g_va hdg DS DA DV CS CSn O0) hZ (w187 hw) (w20 hw) (by decide) (by decide)) e0 (a := sb) (Ins.self H0) (g := (mkF m 2 #[rv sb, .val (.long dg.toInt64), .second] [(.long dg.toInt64), (.ref sb)])) rfl (by rw [hml]; rfl) (w187 hw) (argsL := [(.long dg.toInt64)]) (rest := []) (lenOf pd_23 rfl) rfl (by show 2 * 0 + _ ≤ _; exact Nat.le_of_eq rfl) (hb hby d33_2) (fun _ _ => ⟨rfl, e0, (by decide : 0 + 0 ≤ _), (by decide : 0 + 0 ≤ _)⟩)
  dsimp only [Pt.U, Pt.locs, Pt.cells, Pt.slots] at X1 lq1 yq1 zq1 st1 hQ1
  subst lq1 yq1 zq1
  obtain ⟨h1, e1⟩ : ∃ z, T1.heap = z := ⟨_, rfl⟩
  rw [e1] at hQ1
  obtain ⟨rfl, N1q, K1, p1_0, p1_1, p1_2, p1_3, p1_4, p1_5⟩ := hQ1
  have N1 := Fr.app N0 N1q
  refine go_tr st1 ?_
  show Go _ _ _ _ (T1.setTop (mkF m 5 #[rv sb, .val (.long dg.toInt64), .second] [(.ref sb)]))
  refine go_st (fun t k => XS.pop X1.here hx rfl (hb hby d33_5) rfl rfl k) ?_
  refine go_st (fun t k => XS.aloadN X1.here hx rfl (hb hby d33_6) rfl rfl k) ?_
  show Go _ _ _ _ (T1.setTop (mkF m 7 #[rv sb, .val (.long dg.toInt64), .second] [(.ref sb)]))
  have ke2 : Keep h0 h1 [sb, va] := (Keep.trans (Keep.refl h0 [sb, va]) K1 (allS (Or.inl (List.mem_of_getElem? (i := 0) rfl)) (allS (Or.inl (List.mem_of_getElem? (i := 1) rfl)) all0)))
  obtain ⟨fs, hr, hrun, hended, hW, hsame⟩ := X1.leave (v := some (.ref sb)) (fun h => by rw [Bd.returns] at h; cases h)
  refine ⟨_, _, ?_, hrun, hended, _, _, rfl, ?_, ⟨_, rfl⟩, hW, hsame.mono (by decide) (by decide)⟩
  · exact retOut X1 hx Bd.returns rfl (Or.inr (Or.inr (Or.inr (Or.inr ⟨rfl, rfl, rfl⟩)))) (hb hby d33_7) hr
  · show Q_sbapj0 _ _ _ _ _ _ _ _ _ _ _ _ _ _ T1.heap _
    rw [e1]
    exact ⟨rfl, N1, ke2, p1_0, p1_1, p1_2, p1_3, p1_4, p1_5⟩
def Q_number00 (Z : State) (jw : Addr) (sb : Addr) (va : Addr) (kv : ClassId) (u0 : Int32) (u1 : Int32) (ml : Int32) (dg : Int32) (da : Addr) (dc : Cell) (G1 : Int32) (h0 : Heap) (n0 : Nat) (vR : Option Value) (h : Heap) (L : List Loc) : Prop := vR = some (.ref jw) ∧ Fr n0 L ∧ Keep h0 h [sb, va, jw] ∧ (Exa Z h jw cJW) ∧ (Fld Z h jw cJW "text" "Ljava/lang/StringBuilder;" (.ref sb)) ∧ (Fld Z h jw cJW "afterValue" "Z" (.int 1)) ∧ (Exa Z h sb cSB) ∧ (Fld Z h sb cAS "value" "[B" (.ref va)) ∧ (Fld Z h sb cAS "coder" "B" (.int 0)) ∧ (Fld Z h sb cAS "count" "I" (.int 1)) ∧ (Fld Z h sb cAS "maybeLatin1" "Z" (.int ml)) ∧ (Arv Z h va kv .byte (16 : Int32) [(.int (48 + dg)), (.int u1)] (.int (0 : Int32)))
theorem ef_number00 (m : MethodId) (x0 : Addr) (x1 : Int64) : entryFrame m #[(.ref x0), (.long x1)] 3 = mkF m 0 #[.val (.ref x0), .val (.long x1), .second] [] := by first | (simp [entryFrame, mkF, argsToLocals, Value.category]; done) | rfl
set_option maxRecDepth 65536 in
set_option maxHeartbeats 40000000 in
theorem rm_number00 (l : Launch) (Z : State) (a0 : Array Value) (hw : ∀ d ∈ tables_1, d.before a0 Z = true) (ws : List Jvm.Cond) (jw : Addr) (sb : Addr) (va : Addr) (kv : ClassId) (u0 : Int32) (u1 : Int32) (ml : Int32) (dg : Int32) (da : Addr) (dc : Cell) (G1 : Int32) (h0 : Heap) (n0 : Nat) (Z0 : n0 ≤ h0.size) (H0 : Exa Z h0 jw cJW) (H1 : Fld Z h0 jw cJW "text" "Ljava/lang/StringBuilder;" (.ref sb)) (H2 : Fld Z h0 jw cJW "afterValue" "Z" (.int 0)) (H3 : Exa Z h0 sb cSB) (H4 : Fld Z h0 sb cAS "value" "[B" (.ref va)) (H5 : Fld Z h0 sb cAS "coder" "B" (.int 0)) (H6 : Fld Z h0 sb cAS "count" "I" (.int 0)) (H7 : Fld Z h0 sb cAS "maybeLatin1" "Z" (.int ml)) (H8 : Arv Z h0 va kv .byte (16 : Int32) [(.int u0), (.int u1)] (.int (0 : Int32))) (g_sb : n0 ≤ sb) (g_va : n0 ≤ va) (g_jw : n0 ≤ jw) (hdg : Dg dg) (DS : Sta Z Z.heap "java/lang/Integer" "DigitOnes" "[B" (.ref da)) (DA : Arr Z Z.heap da dc .byte) (DV : dc.slots.size = 100 ∧ ∀ i : Nat, i < 10 → dc.slots[i]? = some (.int (48 + Int32.ofNat i))) (CS : Sta Z Z.heap "java/lang/String" "COMPACT_STRINGS" "Z" (.int G1)) (CSn : ¬ (G1 = (0 : Int32))) (O0 : Old Z n0 h0) :
    MetFree l mn32 (head1 (Jvm.Cond.code mn32 prog_33_method_9_code 3 (some (.object "com/example/adjoinery/adjoinery/JsonWriter")) :: ws) ({ frames := 3, cells := 0, slots := 0, locals := 52 } : Room)) (fun a U => a = #[(.ref jw), (.long dg.toInt64)] ∧ Z.Warmed39 U.vm ∧ U.heap = h0) (fun _ _ _ _ _ => True) (fun _ U o U' => ∃ v L, o = .returned v ∧ Q_number00 Z jw sb va kv u0 u1 ml dg da dc G1 h0 n0 v U'.heap L ∧ FrameEnd U o U' L ({ frames := 3, cells := 0, slots := 0, locals := 52 } : Room).cells ({ frames := 3, cells := 0, slots := 0, locals := 52 } : Room).slots) := by
  refine MetFree.of_bodySF (plainFor_of_name pn_com_example_adjoinery_adjoinery_JsonWriter) hisR ?_
  intro p e s m args below meth c s₁ Bd hml0 hP hK
  obtain ⟨rfl, hZ, hh⟩ := hP
  have hx := Bd.exec
  have hby := Bd.bytes
  have hml : c.maxLocals = 3 := hml0
  have hown : s.vm.findClass "com/example/adjoinery/adjoinery/JsonWriter" = some m.cls := findClass_of_methodNamed Bd.named
  have hnm := (name_of_methodNamed Bd.named Bd.method).1
  have X0 : Stand p l e ({ frames := 3, cells := 0, slots := 0, locals := 52 } : Room) s m #[(.ref jw), (.long dg.toInt64)] below meth c s₁ [] 0 0 := Stand.of_body Bd
  have e0 : s₁.heap = h0 := by rw [← hh, Bd.state]; rfl
  have N0 := Fr.nil n0
  refine go_st (fun t k => castTop (ef_number00 m jw dg.toInt64) k) ?_
  show Go _ _ _ _ (s₁.setTop (mkF m 0 #[rv jw, .val (.long dg.toInt64), .second] []))
  refine go_st (fun t k => XS.aloadN X0.here hx rfl (hb hby d32_0) rfl rfl k) ?_
  show Go _ _ _ _ (s₁.setTop (mkF m 1 #[rv jw, .val (.long dg.toInt64), .second] [(.ref jw)]))
  obtain ⟨cq1, q1, q1'⟩ := H0.cell
  obtain ⟨_, _, ⟨T1, L1, kk1, nn1⟩, -, X1, ⟨Lc1, hQ1, lq1, yq1, zq1⟩, st1⟩ := X0.privateBack hx (y := mn20) hown (mvT hZ (w118 hw)) (mvT hZ (w119 hw)) (mvT hZ (sel_priv (w120 hw) (w119 hw) (nf_same (y := mn20) (y' := mn3) rfl (w34 hw) (notFace_of_selects (w35 hw))) (by decide))) (Cond.privateMethod_at (mvP hZ (w120 hw) (args := #[]))) (mvT hZ (w121 hw)) (by decide) (backOf (W := 0) (rm_sep0 l Z a0 hw [] jw h0 n0 (Nat.le_trans Z0 (Nat.le_refl _)) H2) hZ (w121 hw) (w3 hw) (by decide) (by decide)) (g := (mkF m 1 #[rv jw, .val (.long dg.toInt64), .second] [(.ref jw)])) rfl (by rw [hml]; rfl) (Steps.refl _) (a := jw) (by rw [e0]; exact q1) q1' (argsL := []) (rest := []) (lenOf pd_1 rfl) rfl (by show 2 * 0 + _ ≤ _; exact Nat.le_of_eq rfl) (hb hby d32_1) (fun _ _ => ⟨rfl, e0, (by decide : 0 + 0 ≤ _), (by decide : 0 + 0 ≤ _)⟩)
  dsimp only [Pt.U, Pt.locs, Pt.cells, Pt.slots] at X1 lq1 yq1 zq1 st1 hQ1
  subst lq1 yq1 zq1
  obtain ⟨h1, e1⟩ : ∃ z, T1.heap = z := ⟨_, rfl⟩
  rw [e1] at hQ1
  obtain ⟨rfl, N1q, he1⟩ := hQ1
  have N1 := Fr.app N0 N1q
  rw [he1] at e1
  refine go_tr st1 ?_
  refine go_st (fun t k => XS.aloadN X1.here hx rfl (hb hby d32_4) rfl rfl k) ?_
  show Go _ _ _ _ (T1.setTop (mkF m 5 #[rv jw, .val (.long dg.toInt64), .second] [(.ref jw)]))
  obtain ⟨T2, X2, e2, st2⟩ := getF X1 hx hZ hown (host := "") (Or.inl (w30 hw)) Via.refl e1 H1 (g := (mkF m 5 #[rv jw, .val (.long dg.toInt64), .second] [(.ref jw)])) rfl rfl (hb hby d32_5)
  refine go_st (fun t k => st2 t k) ?_
  refine go_st (fun t k => XS.lloadN X2.here hx rfl (hb hby d32_8) rfl k) ?_
  show Go _ _ _ _ (T2.setTop (mkF m 9 #[rv jw, .val (.long dg.toInt64), .second] [(.long dg.toInt64), (.ref sb)]))
  obtain ⟨cq3, kq3, q3a, q3b, q3c⟩ := isOf hZ e2 H3
  obtain ⟨_, _, ⟨T3, L3, kk3, nn3⟩, -, X3, ⟨Lc3, hQ3, lq3, yq3, zq3⟩, st3⟩ := X2.virtualBack hx (y := mn33) (z := mn33) hown (mvT hZ (w179 hw)) (mvT hZ (w180 hw)) (nf_same (y := mn33) (y' := mn4) (a0 := #[]) rfl (mvT hZ (w39 hw)) (notFace_of_selects (args := #[]) (mvT hZ (w40 hw)))) (mvT hZ (w182 hw)) (mvT hZ (w181 hw)) (by decide) (backOf (W := 0) (rm_sbapj0 l Z a0 hw [] sb va kv u0 u1 ml dg da dc G1 h0 n0 (Nat.le_trans Z0 (Nat.le_refl _)) H3 H4 H5 H6 H7 H8 g_sb g_va hdg DS DA DV CS CSn O0) hZ (w183 hw) (w12 hw) (by decide) (by decide)) q3a q3c (g := (mkF m 9 #[rv jw, .val (.long dg.toInt64), .second] [(.long dg.toInt64), (.ref sb)])) rfl (by rw [hml]; rfl) (Steps.refl _) (argsL := [(.long dg.toInt64)]) (rest := []) (lenOf pd_24 rfl) rfl (by show 2 * 0 + _ ≤ _; exact Nat.le_of_eq rfl) (hb hby d32_9) (fun _ _ => ⟨rfl, e2, (by decide : 0 + 0 ≤ _), (by decide : 0 + 0 ≤ _)⟩)
  dsimp only [Pt.U, Pt.locs, Pt.cells, Pt.slots] at X3 lq3 yq3 zq3 st3 hQ3
  subst lq3 yq3 zq3
  obtain ⟨h3, e3⟩ : ∃ z, T3.heap = z := ⟨_, rfl⟩
  rw [e3] at hQ3
  obtain ⟨rfl, N3q, K3, p3_0, p3_1, p3_2, p3_3, p3_4, p3_5⟩ := hQ3
  have N3 := Fr.app N1 N3q
  refine go_tr st3 ?_
  show Go _ _ _ _ (T3.setTop (mkF m 12 #[rv jw, .val (.long dg.toInt64), .second] [(.ref sb)]))
  refine go_st (fun t k => XS.pop X3.here hx rfl (hb hby d32_12) rfl rfl k) ?_
  refine go_st (fun t k => XS.aloadN X3.here hx rfl (hb hby d32_13) rfl rfl k) ?_
  refine go_st (fun t k => XS.iconst X3.here hx rfl (hb hby d32_14) k) ?_
  show Go _ _ _ _ (T3.setTop (mkF m 15 #[rv jw, .val (.long dg.toInt64), .second] [(.int 1), (.ref jw)]))
  have nq4 : jw ≠ va := Exa.neArv H0 H8 (w2 hw)
  have nq5 : jw ≠ sb := ne_exa H0 H3 (by decide)
  have f6 : Fld Z h3 jw cJW "afterValue" "Z" (.int 0) := (H2.keep K3 (ninS nq5 (ninS nq4 nin0)))
  have f7 : Exa Z h3 jw cJW := (H0.keep K3)
  obtain ⟨T8, h8, X8, e8, W8, st8⟩ := putFN X3 hx hZ hown (w122 hw) Via.refl e3 f6 f7 (Or.inl (w123 hw)) (w2 hw) (ty := .boolean) (v' := (.int 1)) (by decide) rfl rfl (g := (mkF m 15 #[rv jw, .val (.long dg.toInt64), .second] [(.int 1), (.ref jw)])) rfl rfl (hb hby d32_15)
  have N8 := Fr.snoc X8 N3 g_jw
  have f9 : Fld Z h8 jw cJW "afterValue" "Z" (.int 1) := f6.same W8
  refine go_st (fun t k => st8 t k) ?_
  refine go_st (fun t k => XS.aloadN X8.here hx rfl (hb hby d32_18) rfl rfl k) ?_
  show Go _ _ _ _ (T8.setTop (mkF m 19 #[rv jw, .val (.long dg.toInt64), .second] [(.ref jw)]))
  have f10 : Exa Z h8 jw cJW := (f7.wr W8)
  have f11 : Fld Z h8 jw cJW "text" "Ljava/lang/StringBuilder;" (.ref sb) := ((H1.keep K3 (ninS nq5 (ninS nq4 nin0))).other W8 (Or.inr (slot_ne (Or.inr (w31 hw)) (Or.inl (w123 hw)) (by decide) (t := (.object "java/lang/StringBuilder")) (t' := .boolean) (by decide) (by decide))))
  have f12 : Exa Z h8 sb cSB := (p3_0.wr W8)
  have f13 : Fld Z h8 sb cAS "value" "[B" (.ref va) := (p3_1.other W8 (Or.inl (Ne.symm nq5)))
  have f14 : Fld Z h8 sb cAS "coder" "B" (.int 0) := (p3_2.other W8 (Or.inl (Ne.symm nq5)))
  have f15 : Fld Z h8 sb cAS "count" "I" (.int 1) := (p3_3.other W8 (Or.inl (Ne.symm nq5)))
  have f16 : Fld Z h8 sb cAS "maybeLatin1" "Z" (.int ml) := (p3_4.other W8 (Or.inl (Ne.symm nq5)))
  have f17 : Arv Z h8 va kv .byte (16 : Int32) [(.int (48 + dg)), (.int u1)] (.int (0 : Int32)) := (p3_5.other W8 (Ne.symm nq4))
  have ke18 : Keep h0 h3 [sb, va, jw] := (Keep.trans (Keep.refl h0 [sb, va, jw]) K3 (allS (Or.inl (List.mem_of_getElem? (i := 0) rfl)) (allS (Or.inl (List.mem_of_getElem? (i := 1) rfl)) all0)))
  have ke19 : Keep h0 h8 [sb, va, jw] := (Keep.wr ke18 W8 (Or.inl (List.mem_of_getElem? (i := 2) rfl)))
  obtain ⟨fs, hr, hrun, hended, hW, hsame⟩ := X8.leave (v := some (.ref jw)) (fun h => by rw [Bd.returns] at h; cases h)
  refine ⟨_, _, ?_, hrun, hended, _, _, rfl, ?_, ⟨_, rfl⟩, hW, hsame.mono (by decide) (by decide)⟩
  · exact retOut X8 hx Bd.returns rfl (Or.inr (Or.inr (Or.inr (Or.inr ⟨rfl, rfl, rfl⟩)))) (hb hby d32_19) hr
  · show Q_number00 _ _ _ _ _ _ _ _ _ _ _ _ _ _ _ T8.heap _
    rw [e8]
    exact ⟨rfl, N8, ke19, f10, f11, f9, f12, f13, f14, f15, f16, f17⟩
def Q_ens2 (Z : State) (sb : Addr) (va : Addr) (kv : ClassId) (u0 : Int32) (u1 : Int32) (h0 : Heap) (n0 : Nat) (vR : Option Value) (h : Heap) (L : List Loc) : Prop := vR = none ∧ Fr n0 L ∧ h = h0
theorem ef_ens2 (m : MethodId) (x0 : Addr) (x1 : Int32) : entryFrame m #[(.ref x0), (.int x1)] 3 = mkF m 0 #[.val (.ref x0), .val (.int x1), .unset] [] := by first | (simp [entryFrame, mkF, argsToLocals, Value.category]; done) | rfl
set_option maxRecDepth 65536 in
set_option maxHeartbeats 40000000 in
theorem rm_ens2 (l : Launch) (Z : State) (a0 : Array Value) (hw : ∀ d ∈ tables_1, d.before a0 Z = true) (ws : List Jvm.Cond) (sb : Addr) (va : Addr) (kv : ClassId) (u0 : Int32) (u1 : Int32) (h0 : Heap) (n0 : Nat) (Z0 : n0 ≤ h0.size) (H0 : Fld Z h0 sb cAS "value" "[B" (.ref va)) (H1 : Fld Z h0 sb cAS "coder" "B" (.int 0)) (H2 : Arv Z h0 va kv .byte (16 : Int32) [(.int u0), (.int u1)] (.int (0 : Int32))) :
    MetFree l mn17 (head1 (Jvm.Cond.code mn17 jdk_68_method_9_code 3 none :: ws) ({ frames := 0, cells := 0, slots := 0, locals := 0 } : Room)) (fun a U => a = #[(.ref sb), (.int 2)] ∧ Z.Warmed39 U.vm ∧ U.heap = h0) (fun _ _ _ _ _ => True) (fun _ U o U' => ∃ v L, o = .returned v ∧ Q_ens2 Z sb va kv u0 u1 h0 n0 v U'.heap L ∧ FrameEnd U o U' L ({ frames := 0, cells := 0, slots := 0, locals := 0 } : Room).cells ({ frames := 0, cells := 0, slots := 0, locals := 0 } : Room).slots) := by
  refine MetFree.of_bodySF (plainFor_of_name pn_java_lang_AbstractStringBuilder) hisR ?_
  intro p e s m args below meth c s₁ Bd hml0 hP hK
  obtain ⟨rfl, hZ, hh⟩ := hP
  have hx := Bd.exec
  have hby := Bd.bytes
  have hml : c.maxLocals = 3 := hml0
  have hown : s.vm.findClass "java/lang/AbstractStringBuilder" = some m.cls := findClass_of_methodNamed Bd.named
  have hnm := (name_of_methodNamed Bd.named Bd.method).1
  have X0 : Stand p l e ({ frames := 0, cells := 0, slots := 0, locals := 0 } : Room) s m #[(.ref sb), (.int 2)] below meth c s₁ [] 0 0 := Stand.of_body Bd
  have e0 : s₁.heap = h0 := by rw [← hh, Bd.state]; rfl
  have N0 := Fr.nil n0
  refine go_st (fun t k => castTop (ef_ens2 m sb (2 : Int32)) k) ?_
  show Go _ _ _ _ (s₁.setTop (mkF m 0 #[rv sb, iv 2, .unset] []))
  refine go_st (fun t k => XS.aloadN X0.here hx rfl (hb hby d17_0) rfl rfl k) ?_
  show Go _ _ _ _ (s₁.setTop (mkF m 1 #[rv sb, iv 2, .unset] [(.ref sb)]))
  obtain ⟨T1, X1, e1, st1⟩ := getF X0 hx hZ hown (host := "") (Or.inl (w26 hw)) Via.refl e0 H0 (g := (mkF m 1 #[rv sb, iv 2, .unset] [(.ref sb)])) rfl rfl (hb hby d17_1)
  refine go_st (fun t k => st1 t k) ?_
  show Go _ _ _ _ (T1.setTop (mkF m 4 #[rv sb, iv 2, .unset] [(.ref va)]))
  obtain ⟨zc2, zA2, zq2, zS2, zN2, zH2, zG2⟩ := id H2
  refine go_st (fun t k => X1.arraylength hx (by rw [e1]; exact zA2.1) (State.isArrayOf_alike hZ.alike zA2.2.1) (g := (mkF m 4 #[rv sb, iv 2, .unset] [(.ref va)])) rfl rfl (hb hby d17_4) t k) ?_
  rw [len_of zS2 zN2]
  refine go_st (fun t k => XS.aloadN X1.here hx rfl (hb hby d17_5) rfl rfl k) ?_
  show Go _ _ _ _ (T1.setTop (mkF m 6 #[rv sb, iv 2, .unset] [(.ref sb), (.int 16)]))
  obtain ⟨T3, X3, e3, st3⟩ := getF X1 hx hZ hown (host := "") (Or.inl (w28 hw)) Via.refl e1 H1 (g := (mkF m 6 #[rv sb, iv 2, .unset] [(.ref sb), (.int 16)])) rfl rfl (hb hby d17_6)
  refine go_st (fun t k => st3 t k) ?_
  show Go _ _ _ _ (T3.setTop (mkF m 9 #[rv sb, iv 2, .unset] [(.int 0), (.int 16)]))
  refine go_st (fun t k => XS.ishr X3.here hx rfl (hb hby d17_9) rfl k) ?_
  rw [show ((16 : Int32) >>> ((0 : Int32) &&& 31)) = (16 : Int32) from by decide]
  show Go _ _ _ _ (T3.setTop (mkF m 10 #[rv sb, iv 2, .unset] [(.int 16)]))
  refine go_st (fun t k => XS.istoreN X3.here hx rfl (hb hby d17_10) rfl (l' := #[rv sb, iv 2, iv 16]) rfl k) ?_
  refine go_st (fun t k => XS.iloadN X3.here hx rfl (hb hby d17_11) rfl k) ?_
  refine go_st (fun t k => XS.iloadN X3.here hx rfl (hb hby d17_12) rfl k) ?_
  show Go _ _ _ _ (T3.setTop (mkF m 13 #[rv sb, iv 2, iv 16] [(.int 16), (.int 2)]))
  refine go_st (fun t k => XS.isub X3.here hx rfl (hb hby d17_13) rfl k) ?_
  rw [show ((2 : Int32) - (16 : Int32)) = (-14 : Int32) from by decide]
  show Go _ _ _ _ (T3.setTop (mkF m 14 #[rv sb, iv 2, iv 16] [(.int (-14))]))
  refine go_st (fun t k => XS.ifYes X3.here hx rfl (pc0 := 14) (pc' := 38) rfl (hb hby d17_14) rfl ((if0 _ _).trans (flt ((by decide) : ¬ ((0 : Int32) < (-14 : Int32)))).2.2.2) (by decide) (by decide) k) ?_
  show Go _ _ _ _ (T3.setTop (mkF m 38 #[rv sb, iv 2, iv 16] []))
  obtain ⟨fs, hr, hrun, hended, hW, hsame⟩ := X3.leave (v := none) (fun _ => rfl)
  refine ⟨_, _, ?_, hrun, hended, _, _, rfl, ?_, ⟨_, rfl⟩, hW, hsame.mono (by decide) (by decide)⟩
  · exact X3.returnOut hx Bd.returns (hb hby d17_38) hr
  · show Q_ens2 _ _ _ _ _ _ _ _ _ T3.heap _
    rw [e3]
    exact ⟨rfl, N0, rfl⟩
def Q_gch2 (Z : State) (va : Addr) (kv : ClassId) (u0 : Int32) (u1 : Int32) (dg : Int32) (da : Addr) (dc : Cell) (h0 : Heap) (n0 : Nat) (vR : Option Value) (h : Heap) (L : List Loc) : Prop := vR = some (.int 1) ∧ Fr n0 L ∧ Keep h0 h [va] ∧ (Arv Z h va kv .byte (16 : Int32) [(.int u0), (.int (48 + dg))] (.int (0 : Int32)))
theorem ef_gch2 (m : MethodId) (x0 : Int64) (x1 : Int32) (x2 : Addr) : entryFrame m #[(.long x0), (.int x1), (.ref x2)] 11 = mkF m 0 #[.val (.long x0), .second, .val (.int x1), .val (.ref x2), .unset, .unset, .unset, .unset, .unset, .unset, .unset] [] := by first | (simp [entryFrame, mkF, argsToLocals, Value.category]; done) | rfl
set_option maxRecDepth 65536 in
set_option maxHeartbeats 40000000 in
theorem rm_gch2 (l : Launch) (Z : State) (a0 : Array Value) (hw : ∀ d ∈ tables_1, d.before a0 Z = true) (ws : List Jvm.Cond) (va : Addr) (kv : ClassId) (u0 : Int32) (u1 : Int32) (dg : Int32) (da : Addr) (dc : Cell) (h0 : Heap) (n0 : Nat) (Z0 : n0 ≤ h0.size) (H0 : Arv Z h0 va kv .byte (16 : Int32) [(.int u0), (.int u1)] (.int (0 : Int32))) (g_va : n0 ≤ va) (hdg : Dg dg) (DS : Sta Z Z.heap "java/lang/Integer" "DigitOnes" "[B" (.ref da)) (DA : Arr Z Z.heap da dc .byte) (DV : dc.slots.size = 100 ∧ ∀ i : Nat, i < 10 → dc.slots[i]? = some (.int (48 + Int32.ofNat i))) (O0 : Old Z n0 h0) :
    MetFree l mn36 (head1 (Jvm.Cond.code mn36 jdk_35_method_14_code 11 (some .int) :: ws) ({ frames := 0, cells := 0, slots := 0, locals := 0 } : Room)) (fun a U => a = #[(.long dg.toInt64), (.int 2), (.ref va)] ∧ Z.Warmed39 U.vm ∧ U.heap = h0) (fun _ _ _ _ _ => True) (fun _ U o U' => ∃ v L, o = .returned v ∧ Q_gch2 Z va kv u0 u1 dg da dc h0 n0 v U'.heap L ∧ FrameEnd U o U' L ({ frames := 0, cells := 0, slots := 0, locals := 0 } : Room).cells ({ frames := 0, cells := 0, slots := 0, locals := 0 } : Room).slots) := by
  refine MetFree.of_bodySF (plainFor_of_name pn_java_lang_Long) hisR ?_
  intro p e s m args below meth c s₁ Bd hml0 hP hK
  obtain ⟨rfl, hZ, hh⟩ := hP
  have hx := Bd.exec
  have hby := Bd.bytes
  have hml : c.maxLocals = 11 := hml0
  have hown : s.vm.findClass "java/lang/Long" = some m.cls := findClass_of_methodNamed Bd.named
  have hnm := (name_of_methodNamed Bd.named Bd.method).1
  have X0 : Stand p l e ({ frames := 0, cells := 0, slots := 0, locals := 0 } : Room) s m #[(.long dg.toInt64), (.int 2), (.ref va)] below meth c s₁ [] 0 0 := Stand.of_body Bd
  have e0 : s₁.heap = h0 := by rw [← hh, Bd.state]; rfl
  have N0 := Fr.nil n0
  refine go_st (fun t k => castTop (ef_gch2 m dg.toInt64 (2 : Int32) va) k) ?_
  show Go _ _ _ _ (s₁.setTop (mkF m 0 #[.val (.long dg.toInt64), .second, iv 2, rv va, .unset, .unset, .unset, .unset, .unset, .unset, .unset] []))
  refine go_st (fun t k => XS.iloadN X0.here hx rfl (hb hby d36_0) rfl k) ?_
  refine go_st (fun t k => XS.istore X0.here hx rfl (hb hby d36_1) rfl (l' := #[.val (.long dg.toInt64), .second, iv 2, rv va, .unset, .unset, .unset, iv 2, .unset, .unset, .unset]) rfl k) ?_
  refine go_st (fun t k => XS.lloadN X0.here hx rfl (hb hby d36_3) rfl k) ?_
  refine go_st (fun t k => XS.lconst X0.here hx rfl (hb hby d36_4) k) ?_
  show Go _ _ _ _ (s₁.setTop (mkF m 5 #[.val (.long dg.toInt64), .second, iv 2, rv va, .unset, .unset, .unset, iv 2, .unset, .unset, .unset] [(.long 0), (.long dg.toInt64)]))
  refine go_st (fun t k => XS.lcmp X0.here hx rfl (hb hby d36_5) rfl k) ?_
  show Go _ _ _ _ (s₁.setTop (mkF m 6 #[.val (.long dg.toInt64), .second, iv 2, rv va, .unset, .unset, .unset, iv 2, .unset, .unset, .unset] [(.int (lcmpW dg.toInt64 (0 : Int64)))]))
  refine go_st (fun t k => XS.ifYes X0.here hx rfl (pc0 := 6) (pc' := 13) rfl (hb hby d36_6) rfl ((if0 _ _).trans (flt ((dg_all (P := fun dg => ¬ ((lcmpW dg.toInt64 (0 : Int64)) < (0 : Int32))) hdg (by decide +kernel)) : ¬ ((lcmpW dg.toInt64 (0 : Int64)) < (0 : Int32)))).2.1) (by decide) (by decide) k) ?_
  show Go _ _ _ _ (s₁.setTop (mkF m 13 #[.val (.long dg.toInt64), .second, iv 2, rv va, .unset, .unset, .unset, iv 2, .unset, .unset, .unset] []))
  refine go_st (fun t k => XS.iconst X0.here hx rfl (hb hby d36_13) k) ?_
  refine go_st (fun t k => XS.istore X0.here hx rfl (hb hby d36_14) rfl (l' := #[.val (.long dg.toInt64), .second, iv 2, rv va, .unset, .unset, .unset, iv 2, iv 0, .unset, .unset]) rfl k) ?_
  refine go_st (fun t k => XS.iload X0.here hx rfl (hb hby d36_16) rfl k) ?_
  show Go _ _ _ _ (s₁.setTop (mkF m 18 #[.val (.long dg.toInt64), .second, iv 2, rv va, .unset, .unset, .unset, iv 2, iv 0, .unset, .unset] [(.int 0)]))
  refine go_st (fun t k => XS.ifNo X0.here hx rfl (hb hby d36_18) rfl ((if0 _ _).trans (teq ((by decide) : (0 : Int32) = (0 : Int32))).2) k) ?_
  show Go _ _ _ _ (s₁.setTop (mkF m 21 #[.val (.long dg.toInt64), .second, iv 2, rv va, .unset, .unset, .unset, iv 2, iv 0, .unset, .unset] []))
  refine go_st (fun t k => XS.lloadN X0.here hx rfl (hb hby d36_21) rfl k) ?_
  show Go _ _ _ _ (s₁.setTop (mkF m 22 #[.val (.long dg.toInt64), .second, iv 2, rv va, .unset, .unset, .unset, iv 2, iv 0, .unset, .unset] [(.long dg.toInt64)]))
  refine go_st (fun t k => XS.lneg X0.here hx rfl (hb hby d36_22) rfl k) ?_
  show Go _ _ _ _ (s₁.setTop (mkF m 23 #[.val (.long dg.toInt64), .second, iv 2, rv va, .unset, .unset, .unset, iv 2, iv 0, .unset, .unset] [(.long ((-dg.toInt64)))]))
  refine go_st (fun t k => XS.lstoreN X0.here hx rfl (hb hby d36_23) rfl (l' := #[.val (.long ((-dg.toInt64))), .second, iv 2, rv va, .unset, .unset, .unset, iv 2, iv 0, .unset, .unset]) rfl k) ?_
  refine go_st (fun t k => XS.lloadN X0.here hx rfl (hb hby d36_24) rfl k) ?_
  show Go _ _ _ _ (s₁.setTop (mkF m 25 #[.val (.long ((-dg.toInt64))), .second, iv 2, rv va, .unset, .unset, .unset, iv 2, iv 0, .unset, .unset] [(.long ((-dg.toInt64)))]))
  refine go_st (fun t k => X0.ldc2Long hx hown (mvT hZ (w196 hw)) (g := (mkF m 25 #[.val (.long ((-dg.toInt64))), .second, iv 2, rv va, .unset, .unset, .unset, iv 2, iv 0, .unset, .unset] [(.long ((-dg.toInt64)))])) rfl (hb hby d36_25) t k) ?_
  show Go _ _ _ _ (s₁.setTop (mkF m 28 #[.val (.long ((-dg.toInt64))), .second, iv 2, rv va, .unset, .unset, .unset, iv 2, iv 0, .unset, .unset] [(.long (-2147483648)), (.long ((-dg.toInt64)))]))
  refine go_st (fun t k => XS.lcmp X0.here hx rfl (hb hby d36_28) rfl k) ?_
  show Go _ _ _ _ (s₁.setTop (mkF m 29 #[.val (.long ((-dg.toInt64))), .second, iv 2, rv va, .unset, .unset, .unset, iv 2, iv 0, .unset, .unset] [(.int (lcmpW ((-dg.toInt64)) (-2147483648 : Int64)))]))
  refine go_st (fun t k => XS.ifYes X0.here hx rfl (pc0 := 29) (pc' := 82) rfl (hb hby d36_29) rfl ((if0 _ _).trans (tlt ((dg_all (P := fun dg => (0 : Int32) < (lcmpW ((-dg.toInt64)) (-2147483648 : Int64))) hdg (by decide +kernel)) : (0 : Int32) < (lcmpW ((-dg.toInt64)) (-2147483648 : Int64)))).2.2.1) (by decide) (by decide) k) ?_
  show Go _ _ _ _ (s₁.setTop (mkF m 82 #[.val (.long ((-dg.toInt64))), .second, iv 2, rv va, .unset, .unset, .unset, iv 2, iv 0, .unset, .unset] []))
  refine go_st (fun t k => XS.lloadN X0.here hx rfl (hb hby d36_82) rfl k) ?_
  show Go _ _ _ _ (s₁.setTop (mkF m 83 #[.val (.long ((-dg.toInt64))), .second, iv 2, rv va, .unset, .unset, .unset, iv 2, iv 0, .unset, .unset] [(.long ((-dg.toInt64)))]))
  refine go_st (fun t k => XS.l2i X0.here hx rfl (hb hby d36_83) rfl k) ?_
  refine go_st (fun t k => XS.istore X0.here hx rfl (hb hby d36_84) rfl (l' := #[.val (.long ((-dg.toInt64))), .second, iv 2, rv va, .unset, .unset, .unset, iv 2, iv 0, .unset, iv ((((-dg.toInt64))).toInt32)]) rfl k) ?_
  refine go_st (fun t k => XS.iload X0.here hx rfl (hb hby d36_86) rfl k) ?_
  refine go_st (fun t k => XS.bipush X0.here hx rfl (hb hby d36_88) k) ?_
  show Go _ _ _ _ (s₁.setTop (mkF m 90 #[.val (.long ((-dg.toInt64))), .second, iv 2, rv va, .unset, .unset, .unset, iv 2, iv 0, .unset, iv ((((-dg.toInt64))).toInt32)] [(.int (-100)), (.int ((((-dg.toInt64))).toInt32))]))
  refine go_st (fun t k => XS.icmpYes X0.here hx rfl (pc0 := 90) (pc' := 143) rfl (hb hby d36_90) rfl (tlt ((dg_all (P := fun dg => (-100 : Int32) < ((((-dg.toInt64))).toInt32)) hdg (by decide +kernel)) : (-100 : Int32) < ((((-dg.toInt64))).toInt32))).2.2.1 (by decide) (by decide) k) ?_
  show Go _ _ _ _ (s₁.setTop (mkF m 143 #[.val (.long ((-dg.toInt64))), .second, iv 2, rv va, .unset, .unset, .unset, iv 2, iv 0, .unset, iv ((((-dg.toInt64))).toInt32)] []))
  refine go_st (fun t k => XS.aloadN X0.here hx rfl (hb hby d36_143) rfl rfl k) ?_
  show Go _ _ _ _ (s₁.setTop (mkF m 144 #[.val (.long ((-dg.toInt64))), .second, iv 2, rv va, .unset, .unset, .unset, iv 2, iv 0, .unset, iv ((((-dg.toInt64))).toInt32)] [(.ref va)]))
  refine go_st (fun t k => XS.iinc X0.here hx rfl (hb hby d36_144) rfl (l' := #[.val (.long ((-dg.toInt64))), .second, iv 2, rv va, .unset, .unset, .unset, iv ((2 : Int32) + (-1 : Int32)), iv 0, .unset, iv ((((-dg.toInt64))).toInt32)]) rfl k) ?_
  rw [show ((2 : Int32) + (-1 : Int32)) = (1 : Int32) from by decide]
  show Go _ _ _ _ (s₁.setTop (mkF m 147 #[.val (.long ((-dg.toInt64))), .second, iv 2, rv va, .unset, .unset, .unset, iv 1, iv 0, .unset, iv ((((-dg.toInt64))).toInt32)] [(.ref va)]))
  refine go_st (fun t k => XS.iload X0.here hx rfl (hb hby d36_147) rfl k) ?_
  show Go _ _ _ _ (s₁.setTop (mkF m 149 #[.val (.long ((-dg.toInt64))), .second, iv 2, rv va, .unset, .unset, .unset, iv 1, iv 0, .unset, iv ((((-dg.toInt64))).toInt32)] [(.int 1), (.ref va)]))
  obtain ⟨T1, X1, e1, st1⟩ := getS2 X0 hx hZ hown (host := "") (Or.inl (w197 hw)) Via.refl e0 (Sta.ext O0.2 DS) (g := (mkF m 149 #[.val (.long ((-dg.toInt64))), .second, iv 2, rv va, .unset, .unset, .unset, iv 1, iv 0, .unset, iv ((((-dg.toInt64))).toInt32)] [(.int 1), (.ref va)])) rfl (hb hby d36_149)
  refine go_st (fun t k => st1 t k) ?_
  refine go_st (fun t k => XS.iload X1.here hx rfl (hb hby d36_152) rfl k) ?_
  show Go _ _ _ _ (T1.setTop (mkF m 154 #[.val (.long ((-dg.toInt64))), .second, iv 2, rv va, .unset, .unset, .unset, iv 1, iv 0, .unset, iv ((((-dg.toInt64))).toInt32)] [(.int ((((-dg.toInt64))).toInt32)), (.ref da), (.int 1), (.ref va)]))
  refine go_st (fun t k => XS.ineg X1.here hx rfl (hb hby d36_154) rfl k) ?_
  show Go _ _ _ _ (T1.setTop (mkF m 155 #[.val (.long ((-dg.toInt64))), .second, iv 2, rv va, .unset, .unset, .unset, iv 1, iv 0, .unset, iv ((((-dg.toInt64))).toInt32)] [(.int (-((((-dg.toInt64))).toInt32))), (.ref da), (.int 1), (.ref va)]))
  have hjd : (-((((-dg.toInt64))).toInt32)) = dg := dg_all (P := fun dg => (-((((-dg.toInt64))).toInt32)) = dg) hdg (by decide +kernel)
  rw [hjd]
  show Go _ _ _ _ (T1.setTop (mkF m 155 #[.val (.long ((-dg.toInt64))), .second, iv 2, rv va, .unset, .unset, .unset, iv 1, iv 0, .unset, iv ((((-dg.toInt64))).toInt32)] [(.int dg), (.ref da), (.int 1), (.ref va)]))
  have hin : ¬ (dg < 0 ∨ dc.slots.size ≤ (dg).toNatClampNeg) := by rw [DV.1]; exact dg_all (P := fun dg => ¬ (dg < 0 ∨ 100 ≤ (dg).toNatClampNeg)) hdg (by decide +kernel)
  have hat : dc.slots[(dg).toNatClampNeg]? = some (.int (48 + dg)) := by have q := DV.2 dg.toNatClampNeg (dg_all (P := fun dg => dg.toNatClampNeg < 10) hdg (by decide +kernel)); rw [dg_all (P := fun dg => Int32.ofNat dg.toNatClampNeg = dg) hdg (by decide +kernel)] at q; exact q
  have DAn := DA.ext O0.2
  refine go_st (fun t k => X1.baloadBytes hx (j := dg) (v := (.int (48 + dg))) (by rw [e1]; exact DAn.1) (State.isArrayOf_alike hZ.alike DAn.2.1) DAn.2.2 hin hat (g := (mkF m 155 #[.val (.long ((-dg.toInt64))), .second, iv 2, rv va, .unset, .unset, .unset, iv 1, iv 0, .unset, iv ((((-dg.toInt64))).toInt32)] [(.int dg), (.ref da), (.int 1), (.ref va)])) rfl rfl (hb hby d36_155) t k) ?_
  show Go _ _ _ _ (T1.setTop (mkF m 156 #[.val (.long ((-dg.toInt64))), .second, iv 2, rv va, .unset, .unset, .unset, iv 1, iv 0, .unset, iv ((((-dg.toInt64))).toInt32)] [(.int (48 + dg)), (.int 1), (.ref va)]))
  obtain ⟨zc2, zA2, zq2, zS2, zN2, zH2, zG2⟩ := id H0
  have hin2 : ¬ ((1 : Int32) < 0 ∨ zc2.slots.size ≤ ((1 : Int32)).toNatClampNeg) := inb_of zS2 ⟨by decide, by decide⟩
  obtain ⟨T2, h2, X2, e2, W2, st2⟩ := stB X1 hx hZ e1 zA2 (j := (1 : Int32)) hin2 (g := (mkF m 156 #[.val (.long ((-dg.toInt64))), .second, iv 2, rv va, .unset, .unset, .unset, iv 1, iv 0, .unset, iv ((((-dg.toInt64))).toInt32)] [(.int (48 + dg)), (.int 1), (.ref va)])) rfl rfl (hb hby d36_156)
  have N2 := Fr.snoc X2 N0 g_va
  have f3 : Arv Z h2 va kv .byte (16 : Int32) [(.int u0), (.int (nar .byte (48 + dg)))] (.int (0 : Int32)) := Arv.set zA2 zq2 zS2 zN2 zH2 zG2 (fits_nar_byte _) W2 1 rfl (Nat.le_of_ble_eq_true rfl)
  refine go_st (fun t k => st2 t k) ?_
  show Go _ _ _ _ (T2.setTop (mkF m 157 #[.val (.long ((-dg.toInt64))), .second, iv 2, rv va, .unset, .unset, .unset, iv 1, iv 0, .unset, iv ((((-dg.toInt64))).toInt32)] []))
  have hnb : nar .byte (48 + dg) = 48 + dg := dg_all (P := fun dg => nar .byte (48 + dg) = 48 + dg) hdg (by decide +kernel)
  have f4 : Arv Z h2 va kv .byte (16 : Int32) [(.int u0), (.int (48 + dg))] (.int (0 : Int32)) := by have q := f3; rw [hnb] at q; exact q
  refine go_st (fun t k => XS.iload X2.here hx rfl (hb hby d36_157) rfl k) ?_
  refine go_st (fun t k => XS.bipush X2.here hx rfl (hb hby d36_159) k) ?_
  show Go _ _ _ _ (T2.setTop (mkF m 161 #[.val (.long ((-dg.toInt64))), .second, iv 2, rv va, .unset, .unset, .unset, iv 1, iv 0, .unset, iv ((((-dg.toInt64))).toInt32)] [(.int (-9)), (.int ((((-dg.toInt64))).toInt32))]))
  refine go_st (fun t k => XS.icmpYes X2.here hx rfl (pc0 := 161) (pc' := 178) rfl (hb hby d36_161) rfl (flt ((dg_all (P := fun dg => ¬ (((((-dg.toInt64))).toInt32) < (-9 : Int32))) hdg (by decide +kernel)) : ¬ (((((-dg.toInt64))).toInt32) < (-9 : Int32)))).2.1 (by decide) (by decide) k) ?_
  show Go _ _ _ _ (T2.setTop (mkF m 178 #[.val (.long ((-dg.toInt64))), .second, iv 2, rv va, .unset, .unset, .unset, iv 1, iv 0, .unset, iv ((((-dg.toInt64))).toInt32)] []))
  refine go_st (fun t k => XS.iload X2.here hx rfl (hb hby d36_178) rfl k) ?_
  show Go _ _ _ _ (T2.setTop (mkF m 180 #[.val (.long ((-dg.toInt64))), .second, iv 2, rv va, .unset, .unset, .unset, iv 1, iv 0, .unset, iv ((((-dg.toInt64))).toInt32)] [(.int 0)]))
  refine go_st (fun t k => XS.ifYes X2.here hx rfl (pc0 := 180) (pc' := 192) rfl (hb hby d36_180) rfl ((if0 _ _).trans (teq ((by decide) : (0 : Int32) = (0 : Int32))).1) (by decide) (by decide) k) ?_
  show Go _ _ _ _ (T2.setTop (mkF m 192 #[.val (.long ((-dg.toInt64))), .second, iv 2, rv va, .unset, .unset, .unset, iv 1, iv 0, .unset, iv ((((-dg.toInt64))).toInt32)] []))
  refine go_st (fun t k => XS.iload X2.here hx rfl (hb hby d36_192) rfl k) ?_
  show Go _ _ _ _ (T2.setTop (mkF m 194 #[.val (.long ((-dg.toInt64))), .second, iv 2, rv va, .unset, .unset, .unset, iv 1, iv 0, .unset, iv ((((-dg.toInt64))).toInt32)] [(.int 1)]))
  have ke5 : Keep h0 h2 [va] := (Keep.wr (Keep.refl h0 [va]) W2 (Or.inl (List.mem_of_getElem? (i := 0) rfl)))
  obtain ⟨fs, hr, hrun, hended, hW, hsame⟩ := X2.leave (v := some (.int 1)) (fun h => by rw [Bd.returns] at h; cases h)
  refine ⟨_, _, ?_, hrun, hended, _, _, rfl, ?_, ⟨_, rfl⟩, hW, hsame.mono (by decide) (by decide)⟩
  · exact retI X2 hx Bd.returns (hb hby d36_194) hr
  · show Q_gch2 _ _ _ _ _ _ _ _ _ _ _ T2.heap _
    rw [e2]
    exact ⟨rfl, N2, ke5, f4⟩
def Q_asbapj1 (Z : State) (sb : Addr) (va : Addr) (kv : ClassId) (u0 : Int32) (u1 : Int32) (ml : Int32) (dg : Int32) (da : Addr) (dc : Cell) (G1 : Int32) (h0 : Heap) (n0 : Nat) (vR : Option Value) (h : Heap) (L : List Loc) : Prop := vR = some (.ref sb) ∧ Fr n0 L ∧ Keep h0 h [sb, va] ∧ (Exa Z h sb cSB) ∧ (Fld Z h sb cAS "value" "[B" (.ref va)) ∧ (Fld Z h sb cAS "coder" "B" (.int 0)) ∧ (Fld Z h sb cAS "count" "I" (.int 2)) ∧ (Fld Z h sb cAS "maybeLatin1" "Z" (.int ml)) ∧ (Arv Z h va kv .byte (16 : Int32) [(.int u0), (.int (48 + dg))] (.int (0 : Int32)))
theorem ef_asbapj1 (m : MethodId) (x0 : Addr) (x1 : Int64) : entryFrame m #[(.ref x0), (.long x1)] 5 = mkF m 0 #[.val (.ref x0), .val (.long x1), .second, .unset, .unset] [] := by first | (simp [entryFrame, mkF, argsToLocals, Value.category]; done) | rfl
set_option maxRecDepth 65536 in
set_option maxHeartbeats 40000000 in
theorem rm_asbapj1 (l : Launch) (Z : State) (a0 : Array Value) (hw : ∀ d ∈ tables_1, d.before a0 Z = true) (ws : List Jvm.Cond) (sb : Addr) (va : Addr) (kv : ClassId) (u0 : Int32) (u1 : Int32) (ml : Int32) (dg : Int32) (da : Addr) (dc : Cell) (G1 : Int32) (h0 : Heap) (n0 : Nat) (Z0 : n0 ≤ h0.size) (H0 : Exa Z h0 sb cSB) (H1 : Fld Z h0 sb cAS "value" "[B" (.ref va)) (H2 : Fld Z h0 sb cAS "coder" "B" (.int 0)) (H3 : Fld Z h0 sb cAS "count" "I" (.int 1)) (H4 : Fld Z h0 sb cAS "maybeLatin1" "Z" (.int ml)) (H5 : Arv Z h0 va kv .byte (16 : Int32) [(.int u0), (.int u1)] (.int (0 : Int32))) (g_sb : n0 ≤ sb) (g_va : n0 ≤ va) (hdg : Dg dg) (DS : Sta Z Z.heap "java/lang/Integer" "DigitOnes" "[B" (.ref da)) (DA : Arr Z Z.heap da dc .byte) (DV : dc.slots.size = 100 ∧ ∀ i : Nat, i < 10 → dc.slots[i]? = some (.int (48 + Int32.ofNat i))) (CS : Sta Z Z.heap "java/lang/String" "COMPACT_STRINGS" "Z" (.int G1)) (CSn : ¬ (G1 = (0 : Int32))) (O0 : Old Z n0 h0) :
    MetFree l mn34 (head1 (Jvm.Cond.code mn34 jdk_68_method_33_code 5 (some (.object "java/lang/AbstractStringBuilder")) :: ws) ({ frames := 1, cells := 0, slots := 0, locals := 22 } : Room)) (fun a U => a = #[(.ref sb), (.long dg.toInt64)] ∧ Z.Warmed39 U.vm ∧ U.heap = h0) (fun _ _ _ _ _ => True) (fun _ U o U' => ∃ v L, o = .returned v ∧ Q_asbapj1 Z sb va kv u0 u1 ml dg da dc G1 h0 n0 v U'.heap L ∧ FrameEnd U o U' L ({ frames := 1, cells := 0, slots := 0, locals := 22 } : Room).cells ({ frames := 1, cells := 0, slots := 0, locals := 22 } : Room).slots) := by
  refine MetFree.of_bodySF (plainFor_of_name pn_java_lang_AbstractStringBuilder) hisR ?_
  intro p e s m args below meth c s₁ Bd hml0 hP hK
  obtain ⟨rfl, hZ, hh⟩ := hP
  have hx := Bd.exec
  have hby := Bd.bytes
  have hml : c.maxLocals = 5 := hml0
  have hown : s.vm.findClass "java/lang/AbstractStringBuilder" = some m.cls := findClass_of_methodNamed Bd.named
  have hnm := (name_of_methodNamed Bd.named Bd.method).1
  have X0 : Stand p l e ({ frames := 1, cells := 0, slots := 0, locals := 22 } : Room) s m #[(.ref sb), (.long dg.toInt64)] below meth c s₁ [] 0 0 := Stand.of_body Bd
  have e0 : s₁.heap = h0 := by rw [← hh, Bd.state]; rfl
  have N0 := Fr.nil n0
  refine go_st (fun t k => castTop (ef_asbapj1 m sb dg.toInt64) k) ?_
  show Go _ _ _ _ (s₁.setTop (mkF m 0 #[rv sb, .val (.long dg.toInt64), .second, .unset, .unset] []))
  refine go_st (fun t k => XS.aloadN X0.here hx rfl (hb hby d34_0) rfl rfl k) ?_
  show Go _ _ _ _ (s₁.setTop (mkF m 1 #[rv sb, .val (.long dg.toInt64), .second, .unset, .unset] [(.ref sb)]))
  obtain ⟨T1, X1, e1, st1⟩ := getF X0 hx hZ hown (host := "") (Or.inl (w66 hw)) Via.refl e0 H3 (g := (mkF m 1 #[rv sb, .val (.long dg.toInt64), .second, .unset, .unset] [(.ref sb)])) rfl rfl (hb hby d34_1)
  refine go_st (fun t k => st1 t k) ?_
  refine go_st (fun t k => XS.istoreN X1.here hx rfl (hb hby d34_4) rfl (l' := #[rv sb, .val (.long dg.toInt64), .second, iv 1, .unset]) rfl k) ?_
  refine go_st (fun t k => XS.iloadN X1.here hx rfl (hb hby d34_5) rfl k) ?_
  refine go_st (fun t k => XS.lloadN X1.here hx rfl (hb hby d34_6) rfl k) ?_
  show Go _ _ _ _ (T1.setTop (mkF m 7 #[rv sb, .val (.long dg.toInt64), .second, iv 1, .unset] [(.long dg.toInt64), (.int 1)]))
  obtain ⟨_, _, ⟨T2, L2, kk2, nn2⟩, -, X2, ⟨Lc2, hQ2, lq2, yq2, zq2⟩, st2⟩ := Jvm.LawKit.callS X1 hx (y := mn35) hown (mvT hZ (w188 hw)) (mvT hZ (w189 hw)) (mvT hZ (w190 hw)) (mvT hZ (w191 hw)) (by decide) (backOf (W := 1) (rm_ssz l Z a0 hw [] dg da dc h0 n0 (Nat.le_trans Z0 (Nat.le_refl _)) hdg DS DA DV) hZ (w191 hw) (w190 hw) (by decide) (by decide)) (g := (mkF m 7 #[rv sb, .val (.long dg.toInt64), .second, iv 1, .unset] [(.long dg.toInt64), (.int 1)])) rfl (by rw [hml]; rfl) (argsL := [(.long dg.toInt64)]) (rest := [(.int 1)]) (lenOf pd_21 rfl) rfl (by show 2 * 0 + _ ≤ _; exact Nat.le_of_eq rfl) (hb hby d34_7) (fun _ _ => ⟨rfl, e1, (by decide : 0 + 0 ≤ _), (by decide : 0 + 0 ≤ _)⟩)
  dsimp only [Pt.U, Pt.locs, Pt.cells, Pt.slots] at X2 lq2 yq2 zq2 st2 hQ2
  subst lq2 yq2 zq2
  obtain ⟨h2, e2⟩ : ∃ z, T2.heap = z := ⟨_, rfl⟩
  rw [e2] at hQ2
  obtain ⟨rfl, N2q, he2⟩ := hQ2
  have N2 := Fr.app N0 N2q
  rw [he2] at e2
  refine go_st st2 ?_
  show Go _ _ _ _ (T2.setTop (mkF m 10 #[rv sb, .val (.long dg.toInt64), .second, iv 1, .unset] [(.int 1), (.int 1)]))
  refine go_st (fun t k => XS.iadd X2.here hx rfl (hb hby d34_10) rfl k) ?_
  rw [show ((1 : Int32) + (1 : Int32)) = (2 : Int32) from by decide]
  show Go _ _ _ _ (T2.setTop (mkF m 11 #[rv sb, .val (.long dg.toInt64), .second, iv 1, .unset] [(.int 2)]))
  refine go_st (fun t k => XS.istore X2.here hx rfl (hb hby d34_11) rfl (l' := #[rv sb, .val (.long dg.toInt64), .second, iv 1, iv 2]) rfl k) ?_
  refine go_st (fun t k => XS.aloadN X2.here hx rfl (hb hby d34_13) rfl rfl k) ?_
  refine go_st (fun t k => XS.iload X2.here hx rfl (hb hby d34_14) rfl k) ?_
  show Go _ _ _ _ (T2.setTop (mkF m 16 #[rv sb, .val (.long dg.toInt64), .second, iv 1, iv 2] [(.int 2), (.ref sb)]))
  obtain ⟨cq3, q3, q3'⟩ := H0.cell
  obtain ⟨_, _, ⟨T3, L3, kk3, nn3⟩, -, X3, ⟨Lc3, hQ3, lq3, yq3, zq3⟩, st3⟩ := X2.privateBack hx (y := mn17) hown (mvT hZ (w104 hw)) (mvT hZ (w105 hw)) (mvT hZ (sel_priv (w106 hw) (w105 hw) (nf_same (y := mn17) (y' := mn7) rfl (w54 hw) (notFace_of_selects (w55 hw))) (by decide))) (Cond.privateMethod_at (mvP hZ (w106 hw) (args := #[]))) (mvT hZ (w108 hw)) (by decide) (backOf (W := 0) (rm_ens2 l Z a0 hw [] sb va kv u0 u1 h0 n0 (Nat.le_trans Z0 (Nat.le_refl _)) H1 H2 H5) hZ (w108 hw) (w20 hw) (by decide) (by decide)) (g := (mkF m 16 #[rv sb, .val (.long dg.toInt64), .second, iv 1, iv 2] [(.int 2), (.ref sb)])) rfl (by rw [hml]; rfl) (Steps.refl _) (a := sb) (by rw [e2]; exact q3) q3' (argsL := [(.int 2)]) (rest := []) (lenOf pd_0 rfl) rfl (by show 2 * 0 + _ ≤ _; exact Nat.le_of_eq rfl) (hb hby d34_16) (fun _ _ => ⟨rfl, e2, (by decide : 0 + 0 ≤ _), (by decide : 0 + 0 ≤ _)⟩)
  dsimp only [Pt.U, Pt.locs, Pt.cells, Pt.slots] at X3 lq3 yq3 zq3 st3 hQ3
  subst lq3 yq3 zq3
  obtain ⟨h3, e3⟩ : ∃ z, T3.heap = z := ⟨_, rfl⟩
  rw [e3] at hQ3
  obtain ⟨rfl, N3q, he3⟩ := hQ3
  have N3 := Fr.app N2 N3q
  rw [he3] at e3
  refine go_tr st3 ?_
  refine go_st (fun t k => XS.aloadN X3.here hx rfl (hb hby d34_19) rfl rfl k) ?_
  show Go _ _ _ _ (T3.setTop (mkF m 20 #[rv sb, .val (.long dg.toInt64), .second, iv 1, iv 2] [(.ref sb)]))
  obtain ⟨cq4, kq4, q4a, q4b, q4c⟩ := isOf hZ e3 H0
  obtain ⟨_, _, ⟨T4, L4, kk4, nn4⟩, -, X4, ⟨Lc4, hQ4, lq4, yq4, zq4⟩, st4⟩ := X3.virtualBack hx (y := mn10) (z := mn10) hown (mvT hZ (w133 hw)) (mvT hZ (w69 hw)) (nf_same (y := mn10) (y' := mn7) (a0 := #[]) rfl (mvT hZ (w54 hw)) (notFace_of_selects (args := #[]) (mvT hZ (w55 hw)))) (mvT hZ (w71 hw)) (mvT hZ (w70 hw)) (by decide) (backOf (W := 0) (rm_isl l Z a0 hw [] sb G1 h0 n0 (Nat.le_trans Z0 (Nat.le_refl _)) H2 CS CSn O0) hZ (w72 hw) (w20 hw) (by decide) (by decide)) q4a q4c (g := (mkF m 20 #[rv sb, .val (.long dg.toInt64), .second, iv 1, iv 2] [(.ref sb)])) rfl (by rw [hml]; rfl) (Steps.refl _) (argsL := []) (rest := []) (lenOf pd_4 rfl) rfl (by show 2 * 0 + _ ≤ _; exact Nat.le_of_eq rfl) (hb hby d34_20) (fun _ _ => ⟨rfl, e3, (by decide : 0 + 0 ≤ _), (by decide : 0 + 0 ≤ _)⟩)
  dsimp only [Pt.U, Pt.locs, Pt.cells, Pt.slots] at X4 lq4 yq4 zq4 st4 hQ4
  subst lq4 yq4 zq4
  obtain ⟨h4, e4⟩ : ∃ z, T4.heap = z := ⟨_, rfl⟩
  rw [e4] at hQ4
  obtain ⟨rfl, N4q, he4⟩ := hQ4
  have N4 := Fr.app N3 N4q
  rw [he4] at e4
  refine go_tr st4 ?_
  show Go _ _ _ _ (T4.setTop (mkF m 23 #[rv sb, .val (.long dg.toInt64), .second, iv 1, iv 2] [(.int 1)]))
  refine go_st (fun t k => XS.ifNo X4.here hx rfl (hb hby d34_23) rfl ((if0 _ _).trans (feq ((by decide) : ¬ ((1 : Int32) = (0 : Int32)))).1) k) ?_
  show Go _ _ _ _ (T4.setTop (mkF m 26 #[rv sb, .val (.long dg.toInt64), .second, iv 1, iv 2] []))
  refine go_st (fun t k => XS.lloadN X4.here hx rfl (hb hby d34_26) rfl k) ?_
  refine go_st (fun t k => XS.iload X4.here hx rfl (hb hby d34_27) rfl k) ?_
  refine go_st (fun t k => XS.aloadN X4.here hx rfl (hb hby d34_29) rfl rfl k) ?_
  show Go _ _ _ _ (T4.setTop (mkF m 30 #[rv sb, .val (.long dg.toInt64), .second, iv 1, iv 2] [(.ref sb), (.int 2), (.long dg.toInt64)]))
  obtain ⟨T5, X5, e5, st5⟩ := getF X4 hx hZ hown (host := "") (Or.inl (w26 hw)) Via.refl e4 H1 (g := (mkF m 30 #[rv sb, .val (.long dg.toInt64), .second, iv 1, iv 2] [(.ref sb), (.int 2), (.long dg.toInt64)])) rfl rfl (hb hby d34_30)
  refine go_st (fun t k => st5 t k) ?_
  show Go _ _ _ _ (T5.setTop (mkF m 33 #[rv sb, .val (.long dg.toInt64), .second, iv 1, iv 2] [(.ref va), (.int 2), (.long dg.toInt64)]))
  obtain ⟨_, _, ⟨T6, L6, kk6, nn6⟩, -, X6, ⟨Lc6, hQ6, lq6, yq6, zq6⟩, st6⟩ := Jvm.LawKit.callS X5 hx (y := mn36) hown (mvT hZ (w193 hw)) (mvT hZ (w194 hw)) (mvT hZ (w190 hw)) (mvT hZ (w195 hw)) (by decide) (backOf (W := 0) (rm_gch2 l Z a0 hw [] va kv u0 u1 dg da dc h0 n0 (Nat.le_trans Z0 (Nat.le_refl _)) H5 g_va hdg DS DA DV O0) hZ (w195 hw) (w190 hw) (by decide) (by decide)) (g := (mkF m 33 #[rv sb, .val (.long dg.toInt64), .second, iv 1, iv 2] [(.ref va), (.int 2), (.long dg.toInt64)])) rfl (by rw [hml]; rfl) (argsL := [(.long dg.toInt64), (.int 2), (.ref va)]) (rest := []) (lenOf pd_22 rfl) rfl (by show 2 * 0 + _ ≤ _; exact Nat.le_of_eq rfl) (hb hby d34_33) (fun _ _ => ⟨rfl, e5, (by decide : 0 + 0 ≤ _), (by decide : 0 + 0 ≤ _)⟩)
  dsimp only [Pt.U, Pt.locs, Pt.cells, Pt.slots] at X6 lq6 yq6 zq6 st6 hQ6
  subst lq6 yq6 zq6
  obtain ⟨h6, e6⟩ : ∃ z, T6.heap = z := ⟨_, rfl⟩
  rw [e6] at hQ6
  obtain ⟨rfl, N6q, K6, p6_0⟩ := hQ6
  have N6 := Fr.app N4 N6q
  refine go_st st6 ?_
  show Go _ _ _ _ (T6.setTop (mkF m 36 #[rv sb, .val (.long dg.toInt64), .second, iv 1, iv 2] [(.int 1)]))
  refine go_st (fun t k => XS.pop X6.here hx rfl (hb hby d34_36) rfl rfl k) ?_
  refine go_st (fun t k => XS.goto X6.here hx rfl (pc0 := 37) (pc' := 52) rfl (hb hby d34_37) (by decide) (by decide) k) ?_
  show Go _ _ _ _ (T6.setTop (mkF m 52 #[rv sb, .val (.long dg.toInt64), .second, iv 1, iv 2] []))
  refine go_st (fun t k => XS.aloadN X6.here hx rfl (hb hby d34_52) rfl rfl k) ?_
  refine go_st (fun t k => XS.iload X6.here hx rfl (hb hby d34_53) rfl k) ?_
  show Go _ _ _ _ (T6.setTop (mkF m 55 #[rv sb, .val (.long dg.toInt64), .second, iv 1, iv 2] [(.int 2), (.ref sb)]))
  have nq7 : sb ≠ va := Exa.neArv H0 H5 (w11 hw)
  have f8 : Fld Z h6 sb cAS "count" "I" (.int 1) := (H3.keep K6 (ninS nq7 nin0))
  have f9 : Exa Z h6 sb cSB := (H0.keep K6)
  obtain ⟨T10, h10, X10, e10, W10, st10⟩ := putF X6 hx hZ hown (host := "") (Or.inl (w66 hw)) Via.refl e6 f8 f9 (Or.inl (w67 hw)) (w11 hw) (ty := .int) (by decide) rfl rfl (g := (mkF m 55 #[rv sb, .val (.long dg.toInt64), .second, iv 1, iv 2] [(.int 2), (.ref sb)])) rfl rfl (hb hby d34_55)
  have N10 := Fr.snoc X10 N6 g_sb
  have f11 : Fld Z h10 sb cAS "count" "I" (.int 2) := f8.same W10
  refine go_st (fun t k => st10 t k) ?_
  refine go_st (fun t k => XS.aloadN X10.here hx rfl (hb hby d34_58) rfl rfl k) ?_
  show Go _ _ _ _ (T10.setTop (mkF m 59 #[rv sb, .val (.long dg.toInt64), .second, iv 1, iv 2] [(.ref sb)]))
  have f12 : Exa Z h10 sb cSB := (f9.wr W10)
  have f13 : Fld Z h10 sb cAS "value" "[B" (.ref va) := ((H1.keep K6 (ninS nq7 nin0)).other W10 (Or.inr (slot_ne (Or.inl (w27 hw)) (Or.inl (w67 hw)) (by decide) (t := (.array .byte)) (t' := .int) (by decide) (by decide))))
  have f14 : Fld Z h10 sb cAS "coder" "B" (.int 0) := ((H2.keep K6 (ninS nq7 nin0)).other W10 (Or.inr (slot_ne (Or.inl (w29 hw)) (Or.inl (w67 hw)) (by decide) (t := .byte) (t' := .int) (by decide) (by decide))))
  have f15 : Fld Z h10 sb cAS "maybeLatin1" "Z" (.int ml) := ((H4.keep K6 (ninS nq7 nin0)).other W10 (Or.inr (slot_ne (Or.inl (w139 hw)) (Or.inl (w67 hw)) (by decide) (t := .boolean) (t' := .int) (by decide) (by decide))))
  have f16 : Arv Z h10 va kv .byte (16 : Int32) [(.int u0), (.int (48 + dg))] (.int (0 : Int32)) := (p6_0.other W10 (Ne.symm nq7))
  have ke17 : Keep h0 h6 [sb, va] := (Keep.trans (Keep.refl h0 [sb, va]) K6 (allS (Or.inl (List.mem_of_getElem? (i := 1) rfl)) all0))
  have ke18 : Keep h0 h10 [sb, va] := (Keep.wr ke17 W10 (Or.inl (List.mem_of_getElem? (i := 0) rfl)))
  obtain ⟨fs, hr, hrun, hended, hW, hsame⟩ := X10.leave (v := some (.ref sb)) (fun h => by rw [Bd.returns] at h; cases h)
  refine ⟨_, _, ?_, hrun, hended, _, _, rfl, ?_, ⟨_, rfl⟩, hW, hsame.mono (by decide) (by decide)⟩
  · exact retOut X10 hx Bd.returns rfl (Or.inr (Or.inr (Or.inr (Or.inr ⟨rfl, rfl, rfl⟩)))) (hb hby d34_59) hr
  · show Q_asbapj1 _ _ _ _ _ _ _ _ _ _ _ _ _ _ T10.heap _
    rw [e10]
    exact ⟨rfl, N10, ke18, f12, f13, f14, f11, f15, f16⟩
def Q_sbapj1 (Z : State) (sb : Addr) (va : Addr) (kv : ClassId) (u0 : Int32) (u1 : Int32) (ml : Int32) (dg : Int32) (da : Addr) (dc : Cell) (G1 : Int32) (h0 : Heap) (n0 : Nat) (vR : Option Value) (h : Heap) (L : List Loc) : Prop := vR = some (.ref sb) ∧ Fr n0 L ∧ Keep h0 h [sb, va] ∧ (Exa Z h sb cSB) ∧ (Fld Z h sb cAS "value" "[B" (.ref va)) ∧ (Fld Z h sb cAS "coder" "B" (.int 0)) ∧ (Fld Z h sb cAS "count" "I" (.int 2)) ∧ (Fld Z h sb cAS "maybeLatin1" "Z" (.int ml)) ∧ (Arv Z h va kv .byte (16 : Int32) [(.int u0), (.int (48 + dg))] (.int (0 : Int32)))
theorem ef_sbapj1 (m : MethodId) (x0 : Addr) (x1 : Int64) : entryFrame m #[(.ref x0), (.long x1)] 3 = mkF m 0 #[.val (.ref x0), .val (.long x1), .second] [] := by first | (simp [entryFrame, mkF, argsToLocals, Value.category]; done) | rfl
set_option maxRecDepth 65536 in
set_option maxHeartbeats 40000000 in
theorem rm_sbapj1 (l : Launch) (Z : State) (a0 : Array Value) (hw : ∀ d ∈ tables_1, d.before a0 Z = true) (ws : List Jvm.Cond) (sb : Addr) (va : Addr) (kv : ClassId) (u0 : Int32) (u1 : Int32) (ml : Int32) (dg : Int32) (da : Addr) (dc : Cell) (G1 : Int32) (h0 : Heap) (n0 : Nat) (Z0 : n0 ≤ h0.size) (H0 : Exa Z h0 sb cSB) (H1 : Fld Z h0 sb cAS "value" "[B" (.ref va)) (H2 : Fld Z h0 sb cAS "coder" "B" (.int 0)) (H3 : Fld Z h0 sb cAS "count" "I" (.int 1)) (H4 : Fld Z h0 sb cAS "maybeLatin1" "Z" (.int ml)) (H5 : Arv Z h0 va kv .byte (16 : Int32) [(.int u0), (.int u1)] (.int (0 : Int32))) (g_sb : n0 ≤ sb) (g_va : n0 ≤ va) (hdg : Dg dg) (DS : Sta Z Z.heap "java/lang/Integer" "DigitOnes" "[B" (.ref da)) (DA : Arr Z Z.heap da dc .byte) (DV : dc.slots.size = 100 ∧ ∀ i : Nat, i < 10 → dc.slots[i]? = some (.int (48 + Int32.ofNat i))) (CS : Sta Z Z.heap "java/lang/String" "COMPACT_STRINGS" "Z" (.int G1)) (CSn : ¬ (G1 = (0 : Int32))) (O0 : Old Z n0 h0) :
    MetFree l mn33 (head1 (Jvm.Cond.code mn33 jdk_67_method_16_code 3 (some (.object "java/lang/StringBuilder")) :: ws) ({ frames := 2, cells := 0, slots := 0, locals := 38 } : Room)) (fun a U => a = #[(.ref sb), (.long dg.toInt64)] ∧ Z.Warmed39 U.vm ∧ U.heap = h0) (fun _ _ _ _ _ => True) (fun _ U o U' => ∃ v L, o = .returned v ∧ Q_sbapj1 Z sb va kv u0 u1 ml dg da dc G1 h0 n0 v U'.heap L ∧ FrameEnd U o U' L ({ frames := 2, cells := 0, slots := 0, locals := 38 } : Room).cells ({ frames := 2, cells := 0, slots := 0, locals := 38 } : Room).slots) := by
  refine MetFree.of_bodySF (plainFor_of_name pn_java_lang_StringBuilder) hisR ?_
  intro p e s m args below meth c s₁ Bd hml0 hP hK
  obtain ⟨rfl, hZ, hh⟩ := hP
  have hx := Bd.exec
  have hby := Bd.bytes
  have hml : c.maxLocals = 3 := hml0
  have hown : s.vm.findClass "java/lang/StringBuilder" = some m.cls := findClass_of_methodNamed Bd.named
  have hnm := (name_of_methodNamed Bd.named Bd.method).1
  have X0 : Stand p l e ({ frames := 2, cells := 0, slots := 0, locals := 38 } : Room) s m #[(.ref sb), (.long dg.toInt64)] below meth c s₁ [] 0 0 := Stand.of_body Bd
  have e0 : s₁.heap = h0 := by rw [← hh, Bd.state]; rfl
  have N0 := Fr.nil n0
  refine go_st (fun t k => castTop (ef_sbapj1 m sb dg.toInt64) k) ?_
  show Go _ _ _ _ (s₁.setTop (mkF m 0 #[rv sb, .val (.long dg.toInt64), .second] []))
  refine go_st (fun t k => XS.aloadN X0.here hx rfl (hb hby d33_0) rfl rfl k) ?_
  refine go_st (fun t k => XS.lloadN X0.here hx rfl (hb hby d33_1) rfl k) ?_
  show Go _ _ _ _ (s₁.setTop (mkF m 2 #[rv sb, .val (.long dg.toInt64), .second] [(.long dg.toInt64), (.ref sb)]))
  obtain ⟨_, _, ⟨T1, L1, kk1, nn1⟩, -, X1, ⟨Lc1, hQ1, lq1, yq1, zq1⟩, st1⟩ := superBack X0 hx hZ (y := mn34) hown (w184 hw) (same_self (w185 hw) (nf_same (y := mn34) (y' := mn7) rfl (w54 hw) (notFace_of_selects (w55 hw))) (by decide)) (w185 hw) (w64 hw) (by decide) (backOf (W := 0) (rm_asbapj1 l Z a0 hw [] sb va kv u0 u1 ml dg da dc G1 h0 n0 (Nat.le_trans Z0 (Nat.le_refl _)) H0 H1 H2 H3 H4 H5 g_sb g_va hdg DS DA DV CS CSn O0) hZ (w187 hw) (w20 hw) (by decide) (by decide)) e0 (a := sb) (Ins.self H0) (g := (mkF m 2 #[rv sb, .val (.long dg.toInt64), .second] [(.long dg.toInt64), (.ref sb)])) rfl (by rw [hml]; rfl) (w187 hw) (argsL := [(.long dg.toInt64)]) (rest := []) (lenOf pd_23 rfl) rfl (by show 2 * 0 + _ ≤ _; exact Nat.le_of_eq rfl) (hb hby d33_2) (fun _ _ => ⟨rfl, e0, (by decide : 0 + 0 ≤ _), (by decide : 0 + 0 ≤ _)⟩)
  dsimp only [Pt.U, Pt.locs, Pt.cells, Pt.slots] at X1 lq1 yq1 zq1 st1 hQ1
  subst lq1 yq1 zq1
  obtain ⟨h1, e1⟩ : ∃ z, T1.heap = z := ⟨_, rfl⟩
  rw [e1] at hQ1
  obtain ⟨rfl, N1q, K1, p1_0, p1_1, p1_2, p1_3, p1_4, p1_5⟩ := hQ1
  have N1 := Fr.app N0 N1q
  refine go_tr st1 ?_
  show Go _ _ _ _ (T1.setTop (mkF m 5 #[rv sb, .val (.long dg.toInt64), .second] [(.ref sb)]))
  refine go_st (fun t k => XS.pop X1.here hx rfl (hb hby d33_5) rfl rfl k) ?_
  refine go_st (fun t k => XS.aloadN X1.here hx rfl (hb hby d33_6) rfl rfl k) ?_
  show Go _ _ _ _ (T1.setTop (mkF m 7 #[rv sb, .val (.long dg.toInt64), .second] [(.ref sb)]))
  have ke2 : Keep h0 h1 [sb, va] := (Keep.trans (Keep.refl h0 [sb, va]) K1 (allS (Or.inl (List.mem_of_getElem? (i := 0) rfl)) (allS (Or.inl (List.mem_of_getElem? (i := 1) rfl)) all0)))
  obtain ⟨fs, hr, hrun, hended, hW, hsame⟩ := X1.leave (v := some (.ref sb)) (fun h => by rw [Bd.returns] at h; cases h)
  refine ⟨_, _, ?_, hrun, hended, _, _, rfl, ?_, ⟨_, rfl⟩, hW, hsame.mono (by decide) (by decide)⟩
  · exact retOut X1 hx Bd.returns rfl (Or.inr (Or.inr (Or.inr (Or.inr ⟨rfl, rfl, rfl⟩)))) (hb hby d33_7) hr
  · show Q_sbapj1 _ _ _ _ _ _ _ _ _ _ _ _ _ _ T1.heap _
    rw [e1]
    exact ⟨rfl, N1, ke2, p1_0, p1_1, p1_2, p1_3, p1_4, p1_5⟩
def Q_number10 (Z : State) (jw : Addr) (sb : Addr) (va : Addr) (kv : ClassId) (u0 : Int32) (u1 : Int32) (ml : Int32) (dg : Int32) (da : Addr) (dc : Cell) (G1 : Int32) (h0 : Heap) (n0 : Nat) (vR : Option Value) (h : Heap) (L : List Loc) : Prop := vR = some (.ref jw) ∧ Fr n0 L ∧ Keep h0 h [sb, va, jw] ∧ (Exa Z h jw cJW) ∧ (Fld Z h jw cJW "text" "Ljava/lang/StringBuilder;" (.ref sb)) ∧ (Fld Z h jw cJW "afterValue" "Z" (.int 1)) ∧ (Exa Z h sb cSB) ∧ (Fld Z h sb cAS "value" "[B" (.ref va)) ∧ (Fld Z h sb cAS "coder" "B" (.int 0)) ∧ (Fld Z h sb cAS "count" "I" (.int 2)) ∧ (Fld Z h sb cAS "maybeLatin1" "Z" (.int ml)) ∧ (Arv Z h va kv .byte (16 : Int32) [(.int u0), (.int (48 + dg))] (.int (0 : Int32)))
theorem ef_number10 (m : MethodId) (x0 : Addr) (x1 : Int64) : entryFrame m #[(.ref x0), (.long x1)] 3 = mkF m 0 #[.val (.ref x0), .val (.long x1), .second] [] := by first | (simp [entryFrame, mkF, argsToLocals, Value.category]; done) | rfl
set_option maxRecDepth 65536 in
set_option maxHeartbeats 40000000 in
theorem rm_number10 (l : Launch) (Z : State) (a0 : Array Value) (hw : ∀ d ∈ tables_1, d.before a0 Z = true) (ws : List Jvm.Cond) (jw : Addr) (sb : Addr) (va : Addr) (kv : ClassId) (u0 : Int32) (u1 : Int32) (ml : Int32) (dg : Int32) (da : Addr) (dc : Cell) (G1 : Int32) (h0 : Heap) (n0 : Nat) (Z0 : n0 ≤ h0.size) (H0 : Exa Z h0 jw cJW) (H1 : Fld Z h0 jw cJW "text" "Ljava/lang/StringBuilder;" (.ref sb)) (H2 : Fld Z h0 jw cJW "afterValue" "Z" (.int 0)) (H3 : Exa Z h0 sb cSB) (H4 : Fld Z h0 sb cAS "value" "[B" (.ref va)) (H5 : Fld Z h0 sb cAS "coder" "B" (.int 0)) (H6 : Fld Z h0 sb cAS "count" "I" (.int 1)) (H7 : Fld Z h0 sb cAS "maybeLatin1" "Z" (.int ml)) (H8 : Arv Z h0 va kv .byte (16 : Int32) [(.int u0), (.int u1)] (.int (0 : Int32))) (g_sb : n0 ≤ sb) (g_va : n0 ≤ va) (g_jw : n0 ≤ jw) (hdg : Dg dg) (DS : Sta Z Z.heap "java/lang/Integer" "DigitOnes" "[B" (.ref da)) (DA : Arr Z Z.heap da dc .byte) (DV : dc.slots.size = 100 ∧ ∀ i : Nat, i < 10 → dc.slots[i]? = some (.int (48 + Int32.ofNat i))) (CS : Sta Z Z.heap "java/lang/String" "COMPACT_STRINGS" "Z" (.int G1)) (CSn : ¬ (G1 = (0 : Int32))) (O0 : Old Z n0 h0) :
    MetFree l mn32 (head1 (Jvm.Cond.code mn32 prog_33_method_9_code 3 (some (.object "com/example/adjoinery/adjoinery/JsonWriter")) :: ws) ({ frames := 3, cells := 0, slots := 0, locals := 52 } : Room)) (fun a U => a = #[(.ref jw), (.long dg.toInt64)] ∧ Z.Warmed39 U.vm ∧ U.heap = h0) (fun _ _ _ _ _ => True) (fun _ U o U' => ∃ v L, o = .returned v ∧ Q_number10 Z jw sb va kv u0 u1 ml dg da dc G1 h0 n0 v U'.heap L ∧ FrameEnd U o U' L ({ frames := 3, cells := 0, slots := 0, locals := 52 } : Room).cells ({ frames := 3, cells := 0, slots := 0, locals := 52 } : Room).slots) := by
  refine MetFree.of_bodySF (plainFor_of_name pn_com_example_adjoinery_adjoinery_JsonWriter) hisR ?_
  intro p e s m args below meth c s₁ Bd hml0 hP hK
  obtain ⟨rfl, hZ, hh⟩ := hP
  have hx := Bd.exec
  have hby := Bd.bytes
  have hml : c.maxLocals = 3 := hml0
  have hown : s.vm.findClass "com/example/adjoinery/adjoinery/JsonWriter" = some m.cls := findClass_of_methodNamed Bd.named
  have hnm := (name_of_methodNamed Bd.named Bd.method).1
  have X0 : Stand p l e ({ frames := 3, cells := 0, slots := 0, locals := 52 } : Room) s m #[(.ref jw), (.long dg.toInt64)] below meth c s₁ [] 0 0 := Stand.of_body Bd
  have e0 : s₁.heap = h0 := by rw [← hh, Bd.state]; rfl
  have N0 := Fr.nil n0
  refine go_st (fun t k => castTop (ef_number10 m jw dg.toInt64) k) ?_
  show Go _ _ _ _ (s₁.setTop (mkF m 0 #[rv jw, .val (.long dg.toInt64), .second] []))
  refine go_st (fun t k => XS.aloadN X0.here hx rfl (hb hby d32_0) rfl rfl k) ?_
  show Go _ _ _ _ (s₁.setTop (mkF m 1 #[rv jw, .val (.long dg.toInt64), .second] [(.ref jw)]))
  obtain ⟨cq1, q1, q1'⟩ := H0.cell
  obtain ⟨_, _, ⟨T1, L1, kk1, nn1⟩, -, X1, ⟨Lc1, hQ1, lq1, yq1, zq1⟩, st1⟩ := X0.privateBack hx (y := mn20) hown (mvT hZ (w118 hw)) (mvT hZ (w119 hw)) (mvT hZ (sel_priv (w120 hw) (w119 hw) (nf_same (y := mn20) (y' := mn3) rfl (w34 hw) (notFace_of_selects (w35 hw))) (by decide))) (Cond.privateMethod_at (mvP hZ (w120 hw) (args := #[]))) (mvT hZ (w121 hw)) (by decide) (backOf (W := 0) (rm_sep0 l Z a0 hw [] jw h0 n0 (Nat.le_trans Z0 (Nat.le_refl _)) H2) hZ (w121 hw) (w3 hw) (by decide) (by decide)) (g := (mkF m 1 #[rv jw, .val (.long dg.toInt64), .second] [(.ref jw)])) rfl (by rw [hml]; rfl) (Steps.refl _) (a := jw) (by rw [e0]; exact q1) q1' (argsL := []) (rest := []) (lenOf pd_1 rfl) rfl (by show 2 * 0 + _ ≤ _; exact Nat.le_of_eq rfl) (hb hby d32_1) (fun _ _ => ⟨rfl, e0, (by decide : 0 + 0 ≤ _), (by decide : 0 + 0 ≤ _)⟩)
  dsimp only [Pt.U, Pt.locs, Pt.cells, Pt.slots] at X1 lq1 yq1 zq1 st1 hQ1
  subst lq1 yq1 zq1
  obtain ⟨h1, e1⟩ : ∃ z, T1.heap = z := ⟨_, rfl⟩
  rw [e1] at hQ1
  obtain ⟨rfl, N1q, he1⟩ := hQ1
  have N1 := Fr.app N0 N1q
  rw [he1] at e1
  refine go_tr st1 ?_
  refine go_st (fun t k => XS.aloadN X1.here hx rfl (hb hby d32_4) rfl rfl k) ?_
  show Go _ _ _ _ (T1.setTop (mkF m 5 #[rv jw, .val (.long dg.toInt64), .second] [(.ref jw)]))
  obtain ⟨T2, X2, e2, st2⟩ := getF X1 hx hZ hown (host := "") (Or.inl (w30 hw)) Via.refl e1 H1 (g := (mkF m 5 #[rv jw, .val (.long dg.toInt64), .second] [(.ref jw)])) rfl rfl (hb hby d32_5)
  refine go_st (fun t k => st2 t k) ?_
  refine go_st (fun t k => XS.lloadN X2.here hx rfl (hb hby d32_8) rfl k) ?_
  show Go _ _ _ _ (T2.setTop (mkF m 9 #[rv jw, .val (.long dg.toInt64), .second] [(.long dg.toInt64), (.ref sb)]))
  obtain ⟨cq3, kq3, q3a, q3b, q3c⟩ := isOf hZ e2 H3
  obtain ⟨_, _, ⟨T3, L3, kk3, nn3⟩, -, X3, ⟨Lc3, hQ3, lq3, yq3, zq3⟩, st3⟩ := X2.virtualBack hx (y := mn33) (z := mn33) hown (mvT hZ (w179 hw)) (mvT hZ (w180 hw)) (nf_same (y := mn33) (y' := mn4) (a0 := #[]) rfl (mvT hZ (w39 hw)) (notFace_of_selects (args := #[]) (mvT hZ (w40 hw)))) (mvT hZ (w182 hw)) (mvT hZ (w181 hw)) (by decide) (backOf (W := 0) (rm_sbapj1 l Z a0 hw [] sb va kv u0 u1 ml dg da dc G1 h0 n0 (Nat.le_trans Z0 (Nat.le_refl _)) H3 H4 H5 H6 H7 H8 g_sb g_va hdg DS DA DV CS CSn O0) hZ (w183 hw) (w12 hw) (by decide) (by decide)) q3a q3c (g := (mkF m 9 #[rv jw, .val (.long dg.toInt64), .second] [(.long dg.toInt64), (.ref sb)])) rfl (by rw [hml]; rfl) (Steps.refl _) (argsL := [(.long dg.toInt64)]) (rest := []) (lenOf pd_24 rfl) rfl (by show 2 * 0 + _ ≤ _; exact Nat.le_of_eq rfl) (hb hby d32_9) (fun _ _ => ⟨rfl, e2, (by decide : 0 + 0 ≤ _), (by decide : 0 + 0 ≤ _)⟩)
  dsimp only [Pt.U, Pt.locs, Pt.cells, Pt.slots] at X3 lq3 yq3 zq3 st3 hQ3
  subst lq3 yq3 zq3
  obtain ⟨h3, e3⟩ : ∃ z, T3.heap = z := ⟨_, rfl⟩
  rw [e3] at hQ3
  obtain ⟨rfl, N3q, K3, p3_0, p3_1, p3_2, p3_3, p3_4, p3_5⟩ := hQ3
  have N3 := Fr.app N1 N3q
  refine go_tr st3 ?_
  show Go _ _ _ _ (T3.setTop (mkF m 12 #[rv jw, .val (.long dg.toInt64), .second] [(.ref sb)]))
  refine go_st (fun t k => XS.pop X3.here hx rfl (hb hby d32_12) rfl rfl k) ?_
  refine go_st (fun t k => XS.aloadN X3.here hx rfl (hb hby d32_13) rfl rfl k) ?_
  refine go_st (fun t k => XS.iconst X3.here hx rfl (hb hby d32_14) k) ?_
  show Go _ _ _ _ (T3.setTop (mkF m 15 #[rv jw, .val (.long dg.toInt64), .second] [(.int 1), (.ref jw)]))
  have nq4 : jw ≠ va := Exa.neArv H0 H8 (w2 hw)
  have nq5 : jw ≠ sb := ne_exa H0 H3 (by decide)
  have f6 : Fld Z h3 jw cJW "afterValue" "Z" (.int 0) := (H2.keep K3 (ninS nq5 (ninS nq4 nin0)))
  have f7 : Exa Z h3 jw cJW := (H0.keep K3)
  obtain ⟨T8, h8, X8, e8, W8, st8⟩ := putFN X3 hx hZ hown (w122 hw) Via.refl e3 f6 f7 (Or.inl (w123 hw)) (w2 hw) (ty := .boolean) (v' := (.int 1)) (by decide) rfl rfl (g := (mkF m 15 #[rv jw, .val (.long dg.toInt64), .second] [(.int 1), (.ref jw)])) rfl rfl (hb hby d32_15)
  have N8 := Fr.snoc X8 N3 g_jw
  have f9 : Fld Z h8 jw cJW "afterValue" "Z" (.int 1) := f6.same W8
  refine go_st (fun t k => st8 t k) ?_
  refine go_st (fun t k => XS.aloadN X8.here hx rfl (hb hby d32_18) rfl rfl k) ?_
  show Go _ _ _ _ (T8.setTop (mkF m 19 #[rv jw, .val (.long dg.toInt64), .second] [(.ref jw)]))
  have f10 : Exa Z h8 jw cJW := (f7.wr W8)
  have f11 : Fld Z h8 jw cJW "text" "Ljava/lang/StringBuilder;" (.ref sb) := ((H1.keep K3 (ninS nq5 (ninS nq4 nin0))).other W8 (Or.inr (slot_ne (Or.inr (w31 hw)) (Or.inl (w123 hw)) (by decide) (t := (.object "java/lang/StringBuilder")) (t' := .boolean) (by decide) (by decide))))
  have f12 : Exa Z h8 sb cSB := (p3_0.wr W8)
  have f13 : Fld Z h8 sb cAS "value" "[B" (.ref va) := (p3_1.other W8 (Or.inl (Ne.symm nq5)))
  have f14 : Fld Z h8 sb cAS "coder" "B" (.int 0) := (p3_2.other W8 (Or.inl (Ne.symm nq5)))
  have f15 : Fld Z h8 sb cAS "count" "I" (.int 2) := (p3_3.other W8 (Or.inl (Ne.symm nq5)))
  have f16 : Fld Z h8 sb cAS "maybeLatin1" "Z" (.int ml) := (p3_4.other W8 (Or.inl (Ne.symm nq5)))
  have f17 : Arv Z h8 va kv .byte (16 : Int32) [(.int u0), (.int (48 + dg))] (.int (0 : Int32)) := (p3_5.other W8 (Ne.symm nq4))
  have ke18 : Keep h0 h3 [sb, va, jw] := (Keep.trans (Keep.refl h0 [sb, va, jw]) K3 (allS (Or.inl (List.mem_of_getElem? (i := 0) rfl)) (allS (Or.inl (List.mem_of_getElem? (i := 1) rfl)) all0)))
  have ke19 : Keep h0 h8 [sb, va, jw] := (Keep.wr ke18 W8 (Or.inl (List.mem_of_getElem? (i := 2) rfl)))
  obtain ⟨fs, hr, hrun, hended, hW, hsame⟩ := X8.leave (v := some (.ref jw)) (fun h => by rw [Bd.returns] at h; cases h)
  refine ⟨_, _, ?_, hrun, hended, _, _, rfl, ?_, ⟨_, rfl⟩, hW, hsame.mono (by decide) (by decide)⟩
  · exact retOut X8 hx Bd.returns rfl (Or.inr (Or.inr (Or.inr (Or.inr ⟨rfl, rfl, rfl⟩)))) (hb hby d32_19) hr
  · show Q_number10 _ _ _ _ _ _ _ _ _ _ _ _ _ _ _ T8.heap _
    rw [e8]
    exact ⟨rfl, N8, ke19, f10, f11, f9, f12, f13, f14, f15, f16, f17⟩
def Q_asb_len2 (Z : State) (sb : Addr) (h0 : Heap) (n0 : Nat) (vR : Option Value) (h : Heap) (L : List Loc) : Prop := vR = some (.int 2) ∧ Fr n0 L ∧ h = h0
theorem ef_asb_len2 (m : MethodId) (x0 : Addr) : entryFrame m #[(.ref x0)] 1 = mkF m 0 #[.val (.ref x0)] [] := by first | (simp [entryFrame, mkF, argsToLocals, Value.category]; done) | rfl
set_option maxRecDepth 65536 in
set_option maxHeartbeats 40000000 in
theorem rm_asb_len2 (l : Launch) (Z : State) (a0 : Array Value) (hw : ∀ d ∈ tables_1, d.before a0 Z = true) (ws : List Jvm.Cond) (sb : Addr) (h0 : Heap) (n0 : Nat) (Z0 : n0 ≤ h0.size) (H0 : Exa Z h0 sb cSB) (H1 : Fld Z h0 sb cAS "count" "I" (.int 2)) :
    MetFree l mn9 (head1 (Jvm.Cond.code mn9 jdk_68_method_6_code 1 (some .int) :: ws) ({ frames := 0, cells := 0, slots := 0, locals := 0 } : Room)) (fun a U => a = #[(.ref sb)] ∧ Z.Warmed39 U.vm ∧ U.heap = h0) (fun _ _ _ _ _ => True) (fun _ U o U' => ∃ v L, o = .returned v ∧ Q_asb_len2 Z sb h0 n0 v U'.heap L ∧ FrameEnd U o U' L ({ frames := 0, cells := 0, slots := 0, locals := 0 } : Room).cells ({ frames := 0, cells := 0, slots := 0, locals := 0 } : Room).slots) := by
  refine MetFree.of_bodySF (plainFor_of_name pn_java_lang_AbstractStringBuilder) hisR ?_
  intro p e s m args below meth c s₁ Bd hml0 hP hK
  obtain ⟨rfl, hZ, hh⟩ := hP
  have hx := Bd.exec
  have hby := Bd.bytes
  have hml : c.maxLocals = 1 := hml0
  have hown : s.vm.findClass "java/lang/AbstractStringBuilder" = some m.cls := findClass_of_methodNamed Bd.named
  have hnm := (name_of_methodNamed Bd.named Bd.method).1
  have X0 : Stand p l e ({ frames := 0, cells := 0, slots := 0, locals := 0 } : Room) s m #[(.ref sb)] below meth c s₁ [] 0 0 := Stand.of_body Bd
  have e0 : s₁.heap = h0 := by rw [← hh, Bd.state]; rfl
  have N0 := Fr.nil n0
  refine go_st (fun t k => castTop (ef_asb_len2 m sb) k) ?_
  show Go _ _ _ _ (s₁.setTop (mkF m 0 #[rv sb] []))
  refine go_st (fun t k => XS.aloadN X0.here hx rfl (hb hby d9_0) rfl rfl k) ?_
  show Go _ _ _ _ (s₁.setTop (mkF m 1 #[rv sb] [(.ref sb)]))
  obtain ⟨T1, X1, e1, st1⟩ := getF X0 hx hZ hown (host := "") (Or.inl (w66 hw)) Via.refl e0 H1 (g := (mkF m 1 #[rv sb] [(.ref sb)])) rfl rfl (hb hby d9_1)
  refine go_st (fun t k => st1 t k) ?_
  show Go _ _ _ _ (T1.setTop (mkF m 4 #[rv sb] [(.int 2)]))
  obtain ⟨fs, hr, hrun, hended, hW, hsame⟩ := X1.leave (v := some (.int 2)) (fun h => by rw [Bd.returns] at h; cases h)
  refine ⟨_, _, ?_, hrun, hended, _, _, rfl, ?_, ⟨_, rfl⟩, hW, hsame.mono (by decide) (by decide)⟩
  · exact retI X1 hx Bd.returns (hb hby d9_4) hr
  · show Q_asb_len2 _ _ _ _ _ T1.heap _
    rw [e1]
    exact ⟨rfl, N0, rfl⟩
def Q_sb_len2 (Z : State) (sb : Addr) (h0 : Heap) (n0 : Nat) (vR : Option Value) (h : Heap) (L : List Loc) : Prop := vR = some (.int 2) ∧ Fr n0 L ∧ h = h0
theorem ef_sb_len2 (m : MethodId) (x0 : Addr) : entryFrame m #[(.ref x0)] 1 = mkF m 0 #[.val (.ref x0)] [] := by first | (simp [entryFrame, mkF, argsToLocals, Value.category]; done) | rfl
set_option maxRecDepth 65536 in
set_option maxHeartbeats 40000000 in
theorem rm_sb_len2 (l : Launch) (Z : State) (a0 : Array Value) (hw : ∀ d ∈ tables_1, d.before a0 Z = true) (ws : List Jvm.Cond) (sb : Addr) (h0 : Heap) (n0 : Nat) (Z0 : n0 ≤ h0.size) (H0 : Exa Z h0 sb cSB) (H1 : Fld Z h0 sb cAS "count" "I" (.int 2)) :
    MetFree l mn8 (head1 (Jvm.Cond.code mn8 jdk_67_method_93_code 1 (some .int) :: ws) ({ frames := 1, cells := 0, slots := 0, locals := 12 } : Room)) (fun a U => a = #[(.ref sb)] ∧ Z.Warmed39 U.vm ∧ U.heap = h0) (fun _ _ _ _ _ => True) (fun _ U o U' => ∃ v L, o = .returned v ∧ Q_sb_len2 Z sb h0 n0 v U'.heap L ∧ FrameEnd U o U' L ({ frames := 1, cells := 0, slots := 0, locals := 12 } : Room).cells ({ frames := 1, cells := 0, slots := 0, locals := 12 } : Room).slots) := by
  refine MetFree.of_bodySF (plainFor_of_name pn_java_lang_StringBuilder) hisR ?_
  intro p e s m args below meth c s₁ Bd hml0 hP hK
  obtain ⟨rfl, hZ, hh⟩ := hP
  have hx := Bd.exec
  have hby := Bd.bytes
  have hml : c.maxLocals = 1 := hml0
  have hown : s.vm.findClass "java/lang/StringBuilder" = some m.cls := findClass_of_methodNamed Bd.named
  have hnm := (name_of_methodNamed Bd.named Bd.method).1
  have X0 : Stand p l e ({ frames := 1, cells := 0, slots := 0, locals := 12 } : Room) s m #[(.ref sb)] below meth c s₁ [] 0 0 := Stand.of_body Bd
  have e0 : s₁.heap = h0 := by rw [← hh, Bd.state]; rfl
  have N0 := Fr.nil n0
  refine go_st (fun t k => castTop (ef_sb_len2 m sb) k) ?_
  show Go _ _ _ _ (s₁.setTop (mkF m 0 #[rv sb] []))
  refine go_st (fun t k => XS.aloadN X0.here hx rfl (hb hby d8_0) rfl rfl k) ?_
  show Go _ _ _ _ (s₁.setTop (mkF m 1 #[rv sb] [(.ref sb)]))
  obtain ⟨_, _, ⟨T1, L1, kk1, nn1⟩, -, X1, ⟨Lc1, hQ1, lq1, yq1, zq1⟩, st1⟩ := superBack X0 hx hZ (y := mn9) hown (w63 hw) (same_self (w59 hw) (nf_same (y := mn9) (y' := mn7) rfl (w54 hw) (notFace_of_selects (w55 hw))) (by decide)) (w59 hw) (w64 hw) (by decide) (backOf (W := 0) (rm_asb_len2 l Z a0 hw [] sb h0 n0 (Nat.le_trans Z0 (Nat.le_refl _)) H0 H1) hZ (w65 hw) (w20 hw) (by decide) (by decide)) e0 (a := sb) (Ins.self H0) (g := (mkF m 1 #[rv sb] [(.ref sb)])) rfl (by rw [hml]; rfl) (w65 hw) (argsL := []) (rest := []) (lenOf pd_3 rfl) rfl (by show 2 * 0 + _ ≤ _; exact Nat.le_of_eq rfl) (hb hby d8_1) (fun _ _ => ⟨rfl, e0, (by decide : 0 + 0 ≤ _), (by decide : 0 + 0 ≤ _)⟩)
  dsimp only [Pt.U, Pt.locs, Pt.cells, Pt.slots] at X1 lq1 yq1 zq1 st1 hQ1
  subst lq1 yq1 zq1
  obtain ⟨h1, e1⟩ : ∃ z, T1.heap = z := ⟨_, rfl⟩
  rw [e1] at hQ1
  obtain ⟨rfl, N1q, he1⟩ := hQ1
  have N1 := Fr.app N0 N1q
  rw [he1] at e1
  refine go_tr st1 ?_
  show Go _ _ _ _ (T1.setTop (mkF m 4 #[rv sb] [(.int 2)]))
  obtain ⟨fs, hr, hrun, hended, hW, hsame⟩ := X1.leave (v := some (.int 2)) (fun h => by rw [Bd.returns] at h; cases h)
  refine ⟨_, _, ?_, hrun, hended, _, _, rfl, ?_, ⟨_, rfl⟩, hW, hsame.mono (by decide) (by decide)⟩
  · exact retI X1 hx Bd.returns (hb hby d8_4) hr
  · show Q_sb_len2 _ _ _ _ _ T1.heap _
    rw [e1]
    exact ⟨rfl, N1, rfl⟩
def Q_chk2 (Z : State)  (h0 : Heap) (n0 : Nat) (vR : Option Value) (h : Heap) (L : List Loc) : Prop := vR = none ∧ Fr n0 L ∧ h = h0
theorem ef_chk2 (m : MethodId) (x0 : Int32) (x1 : Int32) : entryFrame m #[(.int x0), (.int x1)] 2 = mkF m 0 #[.val (.int x0), .val (.int x1)] [] := by first | (simp [entryFrame, mkF, argsToLocals, Value.category]; done) | rfl
set_option maxRecDepth 65536 in
set_option maxHeartbeats 40000000 in
theorem rm_chk2 (l : Launch) (Z : State) (a0 : Array Value) (hw : ∀ d ∈ tables_1, d.before a0 Z = true) (ws : List Jvm.Cond)  (h0 : Heap) (n0 : Nat) (Z0 : n0 ≤ h0.size)  :
    MetFree l mn13 (head1 (Jvm.Cond.code mn13 jdk_65_method_131_code 2 none :: ws) ({ frames := 0, cells := 0, slots := 0, locals := 0 } : Room)) (fun a U => a = #[(.int 0), (.int 2)] ∧ Z.Warmed39 U.vm ∧ U.heap = h0) (fun _ _ _ _ _ => True) (fun _ U o U' => ∃ v L, o = .returned v ∧ Q_chk2 Z h0 n0 v U'.heap L ∧ FrameEnd U o U' L ({ frames := 0, cells := 0, slots := 0, locals := 0 } : Room).cells ({ frames := 0, cells := 0, slots := 0, locals := 0 } : Room).slots) := by
  refine MetFree.of_bodySF (plainFor_of_name pn_java_util_Arrays) hisR ?_
  intro p e s m args below meth c s₁ Bd hml0 hP hK
  obtain ⟨rfl, hZ, hh⟩ := hP
  have hx := Bd.exec
  have hby := Bd.bytes
  have hml : c.maxLocals = 2 := hml0
  have hown : s.vm.findClass "java/util/Arrays" = some m.cls := findClass_of_methodNamed Bd.named
  have hnm := (name_of_methodNamed Bd.named Bd.method).1
  have X0 : Stand p l e ({ frames := 0, cells := 0, slots := 0, locals := 0 } : Room) s m #[(.int 0), (.int 2)] below meth c s₁ [] 0 0 := Stand.of_body Bd
  have e0 : s₁.heap = h0 := by rw [← hh, Bd.state]; rfl
  have N0 := Fr.nil n0
  refine go_st (fun t k => castTop (ef_chk2 m (0 : Int32) (2 : Int32)) k) ?_
  show Go _ _ _ _ (s₁.setTop (mkF m 0 #[iv 0, iv 2] []))
  refine go_st (fun t k => XS.iloadN X0.here hx rfl (hb hby d13_0) rfl k) ?_
  refine go_st (fun t k => XS.iloadN X0.here hx rfl (hb hby d13_1) rfl k) ?_
  show Go _ _ _ _ (s₁.setTop (mkF m 2 #[iv 0, iv 2] [(.int 0), (.int 2)]))
  refine go_st (fun t k => XS.icmpYes X0.here hx rfl (pc0 := 2) (pc' := 37) rfl (hb hby d13_2) rfl (flt ((by decide) : ¬ ((2 : Int32) < (0 : Int32)))).2.1 (by decide) (by decide) k) ?_
  show Go _ _ _ _ (s₁.setTop (mkF m 37 #[iv 0, iv 2] []))
  obtain ⟨fs, hr, hrun, hended, hW, hsame⟩ := X0.leave (v := none) (fun _ => rfl)
  refine ⟨_, _, ?_, hrun, hended, _, _, rfl, ?_, ⟨_, rfl⟩, hW, hsame.mono (by decide) (by decide)⟩
  · exact X0.returnOut hx Bd.returns (hb hby d13_37) hr
  · show Q_chk2 _ _ _ _ s₁.heap _
    rw [e0]
    exact ⟨rfl, N0, rfl⟩
def Q_min_16_2 (Z : State)  (h0 : Heap) (n0 : Nat) (vR : Option Value) (h : Heap) (L : List Loc) : Prop := vR = some (.int 2) ∧ Fr n0 L ∧ h = h0
theorem ef_min_16_2 (m : MethodId) (x0 : Int32) (x1 : Int32) : entryFrame m #[(.int x0), (.int x1)] 2 = mkF m 0 #[.val (.int x0), .val (.int x1)] [] := by first | (simp [entryFrame, mkF, argsToLocals, Value.category]; done) | rfl
set_option maxRecDepth 65536 in
set_option maxHeartbeats 40000000 in
theorem rm_min_16_2 (l : Launch) (Z : State) (a0 : Array Value) (hw : ∀ d ∈ tables_1, d.before a0 Z = true) (ws : List Jvm.Cond)  (h0 : Heap) (n0 : Nat) (Z0 : n0 ≤ h0.size)  :
    MetFree l mn14 (head1 (Jvm.Cond.code mn14 jdk_29_method_69_code 2 (some .int) :: ws) ({ frames := 0, cells := 0, slots := 0, locals := 0 } : Room)) (fun a U => a = #[(.int 16), (.int 2)] ∧ Z.Warmed39 U.vm ∧ U.heap = h0) (fun _ _ _ _ _ => True) (fun _ U o U' => ∃ v L, o = .returned v ∧ Q_min_16_2 Z h0 n0 v U'.heap L ∧ FrameEnd U o U' L ({ frames := 0, cells := 0, slots := 0, locals := 0 } : Room).cells ({ frames := 0, cells := 0, slots := 0, locals := 0 } : Room).slots) := by
  refine MetFree.of_bodySF (by decide +kernel) hisR ?_
  intro p e s m args below meth c s₁ Bd hml0 hP hK
  obtain ⟨rfl, hZ, hh⟩ := hP
  have hx := Bd.exec
  have hby := Bd.bytes
  have hml : c.maxLocals = 2 := hml0
  have hown : s.vm.findClass "java/lang/Math" = some m.cls := findClass_of_methodNamed Bd.named
  have hnm := (name_of_methodNamed Bd.named Bd.method).1
  have X0 : Stand p l e ({ frames := 0, cells := 0, slots := 0, locals := 0 } : Room) s m #[(.int 16), (.int 2)] below meth c s₁ [] 0 0 := Stand.of_body Bd
  have e0 : s₁.heap = h0 := by rw [← hh, Bd.state]; rfl
  have N0 := Fr.nil n0
  refine go_st (fun t k => castTop (ef_min_16_2 m (16 : Int32) (2 : Int32)) k) ?_
  show Go _ _ _ _ (s₁.setTop (mkF m 0 #[iv 16, iv 2] []))
  refine go_st (fun t k => XS.iloadN X0.here hx rfl (hb hby d14_0) rfl k) ?_
  refine go_st (fun t k => XS.iloadN X0.here hx rfl (hb hby d14_1) rfl k) ?_
  show Go _ _ _ _ (s₁.setTop (mkF m 2 #[iv 16, iv 2] [(.int 2), (.int 16)]))
  refine go_st (fun t k => XS.icmpYes X0.here hx rfl (pc0 := 2) (pc' := 9) rfl (hb hby d14_2) rfl (tlt ((by decide) : (2 : Int32) < (16 : Int32))).2.2.1 (by decide) (by decide) k) ?_
  show Go _ _ _ _ (s₁.setTop (mkF m 9 #[iv 16, iv 2] []))
  refine go_st (fun t k => XS.iloadN X0.here hx rfl (hb hby d14_9) rfl k) ?_
  show Go _ _ _ _ (s₁.setTop (mkF m 10 #[iv 16, iv 2] [(.int 2)]))
  obtain ⟨fs, hr, hrun, hended, hW, hsame⟩ := X0.leave (v := some (.int 2)) (fun h => by rw [Bd.returns] at h; cases h)
  refine ⟨_, _, ?_, hrun, hended, _, _, rfl, ?_, ⟨_, rfl⟩, hW, hsame.mono (by decide) (by decide)⟩
  · exact retI X0 hx Bd.returns (hb hby d14_10) hr
  · show Q_min_16_2 _ _ _ _ s₁.heap _
    rw [e0]
    exact ⟨rfl, N0, rfl⟩
def Q_crb2 (Z : State) (va : Addr) (kv : ClassId) (u0 : Int32) (u1 : Int32) (h0 : Heap) (n0 : Nat) (vR : Option Value) (h : Heap) (L : List Loc) : Prop := ∃ (ta : Addr) (kt : ClassId), vR = some (.ref ta) ∧ Fr n0 L ∧ Keep h0 h [] ∧ n0 ≤ ta ∧ h0.size ≤ ta ∧ (Arv Z h ta kt .byte (2 : Int32) [(.int u0), (.int u1)] (.int (0 : Int32)))
theorem ef_crb2 (m : MethodId) (x0 : Addr) (x1 : Int32) (x2 : Int32) : entryFrame m #[(.ref x0), (.int x1), (.int x2)] 5 = mkF m 0 #[.val (.ref x0), .val (.int x1), .val (.int x2), .unset, .unset] [] := by first | (simp [entryFrame, mkF, argsToLocals, Value.category]; done) | rfl
set_option maxRecDepth 65536 in
set_option maxHeartbeats 40000000 in
theorem rm_crb2 (l : Launch) (Z : State) (a0 : Array Value) (hw : ∀ d ∈ tables_1, d.before a0 Z = true) (ws : List Jvm.Cond) (va : Addr) (kv : ClassId) (u0 : Int32) (u1 : Int32) (h0 : Heap) (n0 : Nat) (Z0 : n0 ≤ h0.size) (H0 : Arv Z h0 va kv .byte (16 : Int32) [(.int u0), (.int u1)] (.int (0 : Int32))) :
    MetFree l mn12 (head1 (Jvm.Cond.code mn12 jdk_65_method_133_code 5 (some (.array .byte)) :: ws) ({ frames := 1, cells := 1, slots := 2, locals := 18 } : Room)) (fun a U => a = #[(.ref va), (.int 0), (.int 2)] ∧ Z.Warmed39 U.vm ∧ U.heap = h0) (fun _ _ _ _ _ => True) (fun _ U o U' => ∃ v L, o = .returned v ∧ Q_crb2 Z va kv u0 u1 h0 n0 v U'.heap L ∧ FrameEnd U o U' L ({ frames := 1, cells := 1, slots := 2, locals := 18 } : Room).cells ({ frames := 1, cells := 1, slots := 2, locals := 18 } : Room).slots) := by
  refine MetFree.of_bodySF (plainFor_of_name pn_java_util_Arrays) hisR ?_
  intro p e s m args below meth c s₁ Bd hml0 hP hK
  obtain ⟨rfl, hZ, hh⟩ := hP
  have hx := Bd.exec
  have hby := Bd.bytes
  have hml : c.maxLocals = 5 := hml0
  have hown : s.vm.findClass "java/util/Arrays" = some m.cls := findClass_of_methodNamed Bd.named
  have hnm := (name_of_methodNamed Bd.named Bd.method).1
  have X0 : Stand p l e ({ frames := 1, cells := 1, slots := 2, locals := 18 } : Room) s m #[(.ref va), (.int 0), (.int 2)] below meth c s₁ [] 0 0 := Stand.of_body Bd
  have e0 : s₁.heap = h0 := by rw [← hh, Bd.state]; rfl
  have N0 := Fr.nil n0
  refine go_st (fun t k => castTop (ef_crb2 m va (0 : Int32) (2 : Int32)) k) ?_
  show Go _ _ _ _ (s₁.setTop (mkF m 0 #[rv va, iv 0, iv 2, .unset, .unset] []))
  refine go_st (fun t k => XS.iloadN X0.here hx rfl (hb hby d12_0) rfl k) ?_
  refine go_st (fun t k => XS.iloadN X0.here hx rfl (hb hby d12_1) rfl k) ?_
  show Go _ _ _ _ (s₁.setTop (mkF m 2 #[rv va, iv 0, iv 2, .unset, .unset] [(.int 2), (.int 0)]))
  obtain ⟨_, _, ⟨T1, L1, kk1, nn1⟩, -, X1, ⟨Lc1, hQ1, lq1, yq1, zq1⟩, st1⟩ := Jvm.LawKit.callS X0 hx (y := mn13) hown (mvT hZ (w82 hw)) (mvT hZ (w83 hw)) (mvT hZ (w77 hw)) (mvT hZ (w84 hw)) (by decide) (backOf (W := 0) (rm_chk2 l Z a0 hw []  h0 n0 (Nat.le_trans Z0 (Nat.le_refl _)) ) hZ (w84 hw) (w77 hw) (by decide) (by decide)) (g := (mkF m 2 #[rv va, iv 0, iv 2, .unset, .unset] [(.int 2), (.int 0)])) rfl (by rw [hml]; rfl) (argsL := [(.int 0), (.int 2)]) (rest := []) (lenOf pd_5 rfl) rfl (by show 2 * 0 + _ ≤ _; exact Nat.le_of_eq rfl) (hb hby d12_2) (fun _ _ => ⟨rfl, e0, (by decide : 0 + 0 ≤ _), (by decide : 0 + 0 ≤ _)⟩)
  dsimp only [Pt.U, Pt.locs, Pt.cells, Pt.slots] at X1 lq1 yq1 zq1 st1 hQ1
  subst lq1 yq1 zq1
  obtain ⟨h1, e1⟩ : ∃ z, T1.heap = z := ⟨_, rfl⟩
  rw [e1] at hQ1
  obtain ⟨rfl, N1q, he1⟩ := hQ1
  have N1 := Fr.app N0 N1q
  rw [he1] at e1
  refine go_st st1 ?_
  refine go_st (fun t k => XS.iloadN X1.here hx rfl (hb hby d12_5) rfl k) ?_
  refine go_st (fun t k => XS.iloadN X1.here hx rfl (hb hby d12_6) rfl k) ?_
  show Go _ _ _ _ (T1.setTop (mkF m 7 #[rv va, iv 0, iv 2, .unset, .unset] [(.int 0), (.int 2)]))
  refine go_st (fun t k => XS.isub X1.here hx rfl (hb hby d12_7) rfl k) ?_
  rw [show ((2 : Int32) - (0 : Int32)) = (2 : Int32) from by decide]
  show Go _ _ _ _ (T1.setTop (mkF m 8 #[rv va, iv 0, iv 2, .unset, .unset] [(.int 2)]))
  refine go_st (fun t k => XS.istoreN X1.here hx rfl (hb hby d12_8) rfl (l' := #[rv va, iv 0, iv 2, iv 2, .unset]) rfl k) ?_
  refine go_st (fun t k => XS.iloadN X1.here hx rfl (hb hby d12_9) rfl k) ?_
  show Go _ _ _ _ (T1.setTop (mkF m 10 #[rv va, iv 0, iv 2, iv 2, .unset] [(.int 2)]))
  obtain ⟨T2, h2, kc2, X2, e2, E2, A2, st2⟩ := newP X1 hx hZ (aty := .byte) (w25 hw) e1 (g := (mkF m 10 #[rv va, iv 0, iv 2, iv 2, .unset] [(.int 2)])) rfl (hb hby d12_10) rfl (by decide) (cap := 2) (by decide) (by decide) (by decide) (by decide)
  obtain ⟨b2, gq2⟩ : ∃ z, z = h0.size := ⟨_, rfl⟩
  rw [← gq2] at A2 st2
  have f3 : Arv Z h2 b2 kc2 .byte (2 : Int32) [(.int 0), (.int 0)] (.int 0) := (Arv.new A2 (by decide)).pad (pad_rep [] (.int 0) 2)
  refine go_st (fun t k => st2 t k) ?_
  refine go_st (fun t k => XS.astore X2.here hx rfl (hb hby d12_12) rfl rfl (l' := #[rv va, iv 0, iv 2, iv 2, rv b2]) rfl k) ?_
  refine go_st (fun t k => XS.aloadN X2.here hx rfl (hb hby d12_14) rfl rfl k) ?_
  refine go_st (fun t k => XS.iloadN X2.here hx rfl (hb hby d12_15) rfl k) ?_
  refine go_st (fun t k => XS.aload X2.here hx rfl (hb hby d12_16) rfl rfl k) ?_
  refine go_st (fun t k => XS.iconst X2.here hx rfl (hb hby d12_18) k) ?_
  refine go_st (fun t k => XS.aloadN X2.here hx rfl (hb hby d12_19) rfl rfl k) ?_
  show Go _ _ _ _ (T2.setTop (mkF m 20 #[rv va, iv 0, iv 2, iv 2, rv b2] [(.ref va), (.int 0), (.ref b2), (.int 0), (.ref va)]))
  have f4 : Arv Z h2 va kv .byte (16 : Int32) [(.int u0), (.int u1)] (.int (0 : Int32)) := (H0.ext E2)
  obtain ⟨zc5, zA5, zq5, zS5, zN5, zH5, zG5⟩ := id f4
  refine go_st (fun t k => X2.arraylength hx (by rw [e2]; exact zA5.1) (State.isArrayOf_alike hZ.alike zA5.2.1) (g := (mkF m 20 #[rv va, iv 0, iv 2, iv 2, rv b2] [(.ref va), (.int 0), (.ref b2), (.int 0), (.ref va)])) rfl rfl (hb hby d12_20) t k) ?_
  rw [len_of zS5 zN5]
  refine go_st (fun t k => XS.iloadN X2.here hx rfl (hb hby d12_21) rfl k) ?_
  show Go _ _ _ _ (T2.setTop (mkF m 22 #[rv va, iv 0, iv 2, iv 2, rv b2] [(.int 0), (.int 16), (.int 0), (.ref b2), (.int 0), (.ref va)]))
  refine go_st (fun t k => XS.isub X2.here hx rfl (hb hby d12_22) rfl k) ?_
  rw [show ((16 : Int32) - (0 : Int32)) = (16 : Int32) from by decide]
  show Go _ _ _ _ (T2.setTop (mkF m 23 #[rv va, iv 0, iv 2, iv 2, rv b2] [(.int 16), (.int 0), (.ref b2), (.int 0), (.ref va)]))
  refine go_st (fun t k => XS.iloadN X2.here hx rfl (hb hby d12_23) rfl k) ?_
  show Go _ _ _ _ (T2.setTop (mkF m 24 #[rv va, iv 0, iv 2, iv 2, rv b2] [(.int 2), (.int 16), (.int 0), (.ref b2), (.int 0), (.ref va)]))
  obtain ⟨_, _, ⟨T6, L6, kk6, nn6⟩, -, X6, ⟨Lc6, hQ6, lq6, yq6, zq6⟩, st6⟩ := Jvm.LawKit.callS X2 hx (y := mn14) hown (mvT hZ (w85 hw)) (mvT hZ (w86 hw)) (mvT hZ (w87 hw)) (mvT hZ (w88 hw)) (by decide) (backOf (W := 4) (rm_min_16_2 l Z a0 hw []  h2 n0 (Nat.le_trans Z0 E2.1) ) hZ (w88 hw) (w87 hw) (by decide) (by decide)) (g := (mkF m 24 #[rv va, iv 0, iv 2, iv 2, rv b2] [(.int 2), (.int 16), (.int 0), (.ref b2), (.int 0), (.ref va)])) rfl (by rw [hml]; rfl) (argsL := [(.int 16), (.int 2)]) (rest := [(.int 0), (.ref b2), (.int 0), (.ref va)]) (lenOf pd_6 rfl) rfl (by show 2 * 0 + _ ≤ _; exact Nat.le_of_eq rfl) (hb hby d12_24) (fun _ _ => ⟨rfl, e2, (by decide : 1 + 0 ≤ _), (by decide : 2 + 0 ≤ _)⟩)
  dsimp only [Pt.U, Pt.locs, Pt.cells, Pt.slots] at X6 lq6 yq6 zq6 st6 hQ6
  subst lq6 yq6 zq6
  obtain ⟨h6, e6⟩ : ∃ z, T6.heap = z := ⟨_, rfl⟩
  rw [e6] at hQ6
  obtain ⟨rfl, N6q, he6⟩ := hQ6
  have N6 := Fr.app N1 N6q
  rw [he6] at e6
  refine go_st st6 ?_
  show Go _ _ _ _ (T6.setTop (mkF m 27 #[rv va, iv 0, iv 2, iv 2, rv b2] [(.int 2), (.int 0), (.ref b2), (.int 0), (.ref va)]))
  have g_b2 : n0 ≤ b2 := Nat.le_trans (Nat.le_trans Z0 (Nat.le_refl _)) (Nat.le_of_eq gq2.symm)
  obtain ⟨T7, h7, L7, X7, e7, N7, K7, A7, st7⟩ := cpA X6 hx hZ hown (w89 hw) (w92 hw) (w90 hw) (w91 hw) e6 f4 f3 (Or.inl ⟨rfl, rfl⟩) (sp := (0 : Int32)) (dp := (0 : Int32)) (nn := (2 : Int32)) (us := [(.int u0), (.int u1)]) (by decide) (by decide) (by decide) (by decide) (by decide) rfl (Nat.le_of_ble_eq_true rfl) N6 g_b2 (g := (mkF m 27 #[rv va, iv 0, iv 2, iv 2, rv b2] [(.int 2), (.int 0), (.ref b2), (.int 0), (.ref va)])) rfl (by rw [hml]; rfl) rfl (hb hby d12_27) (by decide) (W := 0) (by show 2 * 0 + _ ≤ _; exact Nat.le_of_eq rfl) (by decide)
  have f8 : Arv Z h7 b2 kc2 .byte (2 : Int32) [(.int u0), (.int u1)] (.int 0) := A7
  refine go_st (fun t k => st7 t k) ?_
  refine go_st (fun t k => XS.aload X7.here hx rfl (hb hby d12_30) rfl rfl k) ?_
  show Go _ _ _ _ (T7.setTop (mkF m 32 #[rv va, iv 0, iv 2, iv 2, rv b2] [(.ref b2)]))
  have ke9 : Keep h0 h2 [] := (Keep.ext (Keep.refl h0 []) E2)
  have ke10 : Keep h0 h7 [] := (Keep.trans ke9 K7 (allS (Or.inr (Nat.le_of_eq gq2.symm)) all0))
  obtain ⟨fs, hr, hrun, hended, hW, hsame⟩ := X7.leave (v := some (.ref b2)) (fun h => by rw [Bd.returns] at h; cases h)
  refine ⟨_, _, ?_, hrun, hended, _, _, rfl, ?_, ⟨_, rfl⟩, hW, hsame.mono (by decide) (by decide)⟩
  · exact retOut X7 hx Bd.returns rfl (Or.inr (Or.inr (Or.inr (Or.inr ⟨rfl, rfl, rfl⟩)))) (hb hby d12_32) hr
  · show Q_crb2 _ _ _ _ _ _ _ _ T7.heap _
    rw [e7]
    exact ⟨b2, kc2, rfl, N7, ke10, g_b2, (Nat.le_of_eq gq2.symm), f8⟩
def Q_cr2 (Z : State) (va : Addr) (kv : ClassId) (u0 : Int32) (u1 : Int32) (h0 : Heap) (n0 : Nat) (vR : Option Value) (h : Heap) (L : List Loc) : Prop := ∃ (ta : Addr) (kt : ClassId), vR = some (.ref ta) ∧ Fr n0 L ∧ Keep h0 h [] ∧ n0 ≤ ta ∧ h0.size ≤ ta ∧ (Arv Z h ta kt .byte (2 : Int32) [(.int u0), (.int u1)] (.int (0 : Int32)))
theorem ef_cr2 (m : MethodId) (x0 : Addr) (x1 : Int32) (x2 : Int32) : entryFrame m #[(.ref x0), (.int x1), (.int x2)] 3 = mkF m 0 #[.val (.ref x0), .val (.int x1), .val (.int x2)] [] := by first | (simp [entryFrame, mkF, argsToLocals, Value.category]; done) | rfl
set_option maxRecDepth 65536 in
set_option maxHeartbeats 40000000 in
theorem rm_cr2 (l : Launch) (Z : State) (a0 : Array Value) (hw : ∀ d ∈ tables_1, d.before a0 Z = true) (ws : List Jvm.Cond) (va : Addr) (kv : ClassId) (u0 : Int32) (u1 : Int32) (h0 : Heap) (n0 : Nat) (Z0 : n0 ≤ h0.size) (H0 : Arv Z h0 va kv .byte (16 : Int32) [(.int u0), (.int u1)] (.int (0 : Int32))) :
    MetFree l mn11 (head1 (Jvm.Cond.code mn11 jdk_65_method_132_code 3 (some (.array .byte)) :: ws) ({ frames := 2, cells := 1, slots := 2, locals := 34 } : Room)) (fun a U => a = #[(.ref va), (.int 0), (.int 2)] ∧ Z.Warmed39 U.vm ∧ U.heap = h0) (fun _ _ _ _ _ => True) (fun _ U o U' => ∃ v L, o = .returned v ∧ Q_cr2 Z va kv u0 u1 h0 n0 v U'.heap L ∧ FrameEnd U o U' L ({ frames := 2, cells := 1, slots := 2, locals := 34 } : Room).cells ({ frames := 2, cells := 1, slots := 2, locals := 34 } : Room).slots) := by
  refine MetFree.of_bodySF (plainFor_of_name pn_java_util_Arrays) hisR ?_
  intro p e s m args below meth c s₁ Bd hml0 hP hK
  obtain ⟨rfl, hZ, hh⟩ := hP
  have hx := Bd.exec
  have hby := Bd.bytes
  have hml : c.maxLocals = 3 := hml0
  have hown : s.vm.findClass "java/util/Arrays" = some m.cls := findClass_of_methodNamed Bd.named
  have hnm := (name_of_methodNamed Bd.named Bd.method).1
  have X0 : Stand p l e ({ frames := 2, cells := 1, slots := 2, locals := 34 } : Room) s m #[(.ref va), (.int 0), (.int 2)] below meth c s₁ [] 0 0 := Stand.of_body Bd
  have e0 : s₁.heap = h0 := by rw [← hh, Bd.state]; rfl
  have N0 := Fr.nil n0
  refine go_st (fun t k => castTop (ef_cr2 m va (0 : Int32) (2 : Int32)) k) ?_
  show Go _ _ _ _ (s₁.setTop (mkF m 0 #[rv va, iv 0, iv 2] []))
  refine go_st (fun t k => XS.iloadN X0.here hx rfl (hb hby d11_0) rfl k) ?_
  show Go _ _ _ _ (s₁.setTop (mkF m 1 #[rv va, iv 0, iv 2] [(.int 0)]))
  refine go_st (fun t k => XS.ifNo X0.here hx rfl (hb hby d11_1) rfl ((if0 _ _).trans (teq ((by decide) : (0 : Int32) = (0 : Int32))).2) k) ?_
  show Go _ _ _ _ (s₁.setTop (mkF m 4 #[rv va, iv 0, iv 2] []))
  refine go_st (fun t k => XS.iloadN X0.here hx rfl (hb hby d11_4) rfl k) ?_
  refine go_st (fun t k => XS.aloadN X0.here hx rfl (hb hby d11_5) rfl rfl k) ?_
  show Go _ _ _ _ (s₁.setTop (mkF m 6 #[rv va, iv 0, iv 2] [(.ref va), (.int 2)]))
  obtain ⟨zc1, zA1, zq1, zS1, zN1, zH1, zG1⟩ := id H0
  refine go_st (fun t k => X0.arraylength hx (by rw [e0]; exact zA1.1) (State.isArrayOf_alike hZ.alike zA1.2.1) (g := (mkF m 6 #[rv va, iv 0, iv 2] [(.ref va), (.int 2)])) rfl rfl (hb hby d11_6) t k) ?_
  rw [len_of zS1 zN1]
  show Go _ _ _ _ (s₁.setTop (mkF m 7 #[rv va, iv 0, iv 2] [(.int 16), (.int 2)]))
  refine go_st (fun t k => XS.icmpNo X0.here hx rfl (hb hby d11_7) rfl (feq ((by decide) : ¬ ((2 : Int32) = (16 : Int32)))).1 k) ?_
  show Go _ _ _ _ (s₁.setTop (mkF m 10 #[rv va, iv 0, iv 2] []))
  refine go_st (fun t k => XS.aloadN X0.here hx rfl (hb hby d11_10) rfl rfl k) ?_
  refine go_st (fun t k => XS.iloadN X0.here hx rfl (hb hby d11_11) rfl k) ?_
  refine go_st (fun t k => XS.iloadN X0.here hx rfl (hb hby d11_12) rfl k) ?_
  show Go _ _ _ _ (s₁.setTop (mkF m 13 #[rv va, iv 0, iv 2] [(.int 2), (.int 0), (.ref va)]))
  obtain ⟨_, _, ⟨T2, L2, kk2, nn2⟩, -, X2, ⟨Lc2, hQ2, lq2, yq2, zq2⟩, st2⟩ := Jvm.LawKit.callS X0 hx (y := mn12) hown (mvT hZ (w79 hw)) (mvT hZ (w80 hw)) (mvT hZ (w77 hw)) (mvT hZ (w81 hw)) (by decide) (backOf (W := 0) (rm_crb2 l Z a0 hw [] va kv u0 u1 h0 n0 (Nat.le_trans Z0 (Nat.le_refl _)) H0) hZ (w81 hw) (w77 hw) (by decide) (by decide)) (g := (mkF m 13 #[rv va, iv 0, iv 2] [(.int 2), (.int 0), (.ref va)])) rfl (by rw [hml]; rfl) (argsL := [(.ref va), (.int 0), (.int 2)]) (rest := []) (lenOf pd_7 rfl) rfl (by show 2 * 0 + _ ≤ _; exact Nat.le_of_eq rfl) (hb hby d11_13) (fun _ _ => ⟨rfl, e0, (by decide : 0 + 1 ≤ _), (by decide : 0 + 2 ≤ _)⟩)
  dsimp only [Pt.U, Pt.locs, Pt.cells, Pt.slots] at X2 lq2 yq2 zq2 st2 hQ2
  subst lq2 yq2 zq2
  obtain ⟨h2, e2⟩ : ∃ z, T2.heap = z := ⟨_, rfl⟩
  rw [e2] at hQ2
  obtain ⟨ta_2, kt_2, rfl, N2q, K2, gf2_0, lf2_0, p2_1⟩ := hQ2
  have N2 := Fr.app N0 N2q
  refine go_st st2 ?_
  show Go _ _ _ _ (T2.setTop (mkF m 16 #[rv va, iv 0, iv 2] [(.ref ta_2)]))
  have ke3 : Keep h0 h2 [] := (Keep.trans (Keep.refl h0 []) K2 all0)
  obtain ⟨fs, hr, hrun, hended, hW, hsame⟩ := X2.leave (v := some (.ref ta_2)) (fun h => by rw [Bd.returns] at h; cases h)
  refine ⟨_, _, ?_, hrun, hended, _, _, rfl, ?_, ⟨_, rfl⟩, hW, hsame.mono (by decide) (by decide)⟩
  · exact retOut X2 hx Bd.returns rfl (Or.inr (Or.inr (Or.inr (Or.inr ⟨rfl, rfl, rfl⟩)))) (hb hby d11_16) hr
  · show Q_cr2 _ _ _ _ _ _ _ _ T2.heap _
    rw [e2]
    exact ⟨ta_2, kt_2, rfl, N2, ke3, gf2_0, lf2_0, p2_1⟩
def Q_strasb2 (Z : State) (sa : Addr) (sb : Addr) (va : Addr) (kv : ClassId) (u0 : Int32) (u1 : Int32) (ml : Int32) (G1 : Int32) (h0 : Heap) (n0 : Nat) (vR : Option Value) (h : Heap) (L : List Loc) : Prop := ∃ (ta : Addr) (kt : ClassId), vR = none ∧ Fr n0 L ∧ Keep h0 h [sa] ∧ n0 ≤ ta ∧ h0.size ≤ ta ∧ (Exa Z h sa cST) ∧ (Fld Z h sa cST "value" "[B" (.ref ta)) ∧ (Fld Z h sa cST "coder" "B" (.int 0)) ∧ (Arv Z h ta kt .byte (2 : Int32) [(.int u0), (.int u1)] (.int (0 : Int32)))
theorem ef_strasb2 (m : MethodId) (x0 : Addr) (x1 : Addr) : entryFrame m #[(.ref x0), (.ref x1), .null] 5 = mkF m 0 #[.val (.ref x0), .val (.ref x1), .val .null, .unset, .unset] [] := by first | (simp [entryFrame, mkF, argsToLocals, Value.category]; done) | rfl
set_option maxRecDepth 65536 in
set_option maxHeartbeats 40000000 in
theorem rm_strasb2 (l : Launch) (Z : State) (a0 : Array Value) (hw : ∀ d ∈ tables_1, d.before a0 Z = true) (ws : List Jvm.Cond) (sa : Addr) (sb : Addr) (va : Addr) (kv : ClassId) (u0 : Int32) (u1 : Int32) (ml : Int32) (G1 : Int32) (h0 : Heap) (n0 : Nat) (Z0 : n0 ≤ h0.size) (H0 : Exa Z h0 sa cST) (H1 : Fld Z h0 sa cST "value" "[B" .null) (H2 : Fld Z h0 sa cST "coder" "B" (.int 0)) (g_sa : n0 ≤ sa) (H4 : Exa Z h0 sb cSB) (H5 : Fld Z h0 sb cAS "value" "[B" (.ref va)) (H6 : Fld Z h0 sb cAS "coder" "B" (.int 0)) (H7 : Fld Z h0 sb cAS "count" "I" (.int 2)) (H8 : Fld Z h0 sb cAS "maybeLatin1" "Z" (.int ml)) (H9 : Arv Z h0 va kv .byte (16 : Int32) [(.int u0), (.int u1)] (.int (0 : Int32))) (CS : Sta Z Z.heap "java/lang/String" "COMPACT_STRINGS" "Z" (.int G1)) (CSn : ¬ (G1 = (0 : Int32))) (O0 : Old Z n0 h0) :
    MetFree l mn6 (head1 (Jvm.Cond.code mn6 jdk_42_method_150_code 5 none :: ws) ({ frames := 3, cells := 1, slots := 2, locals := 49 } : Room)) (fun a U => a = #[(.ref sa), (.ref sb), .null] ∧ Z.Warmed39 U.vm ∧ U.heap = h0) (fun _ _ _ _ _ => True) (fun _ U o U' => ∃ v L, o = .returned v ∧ Q_strasb2 Z sa sb va kv u0 u1 ml G1 h0 n0 v U'.heap L ∧ FrameEnd U o U' L ({ frames := 3, cells := 1, slots := 2, locals := 49 } : Room).cells ({ frames := 3, cells := 1, slots := 2, locals := 49 } : Room).slots) := by
  refine MetFree.of_bodySF (plainFor_of_name pn_java_lang_String) hisR ?_
  intro p e s m args below meth c s₁ Bd hml0 hP hK
  obtain ⟨rfl, hZ, hh⟩ := hP
  have hx := Bd.exec
  have hby := Bd.bytes
  have hml : c.maxLocals = 5 := hml0
  have hown : s.vm.findClass "java/lang/String" = some m.cls := findClass_of_methodNamed Bd.named
  have hnm := (name_of_methodNamed Bd.named Bd.method).1
  have X0 : Stand p l e ({ frames := 3, cells := 1, slots := 2, locals := 49 } : Room) s m #[(.ref sa), (.ref sb), .null] below meth c s₁ [] 0 0 := Stand.of_body Bd
  have e0 : s₁.heap = h0 := by rw [← hh, Bd.state]; rfl
  have N0 := Fr.nil n0
  refine go_st (fun t k => castTop (ef_strasb2 m sa sb) k) ?_
  show Go _ _ _ _ (s₁.setTop (mkF m 0 #[rv sa, rv sb, .val .null, .unset, .unset] []))
  refine go_st (fun t k => XS.aloadN X0.here hx rfl (hb hby d6_0) rfl rfl k) ?_
  show Go _ _ _ _ (s₁.setTop (mkF m 1 #[rv sa, rv sb, .val .null, .unset, .unset] [(.ref sa)]))
  obtain ⟨T1, X1, e1, st1⟩ := initO X0 hx hZ hown (w51 hw) (w8 hw) (w9 hw) e0 (g := (mkF m 1 #[rv sa, rv sb, .val .null, .unset, .unset] [(.ref sa)])) rfl (by rw [hml]; rfl) rfl (hb hby d6_1) (by decide) (W := 0) (by show 2 * 0 + _ ≤ _; exact Nat.le_of_eq rfl) (by decide)
  refine go_st (fun t k => st1 t k) ?_
  refine go_st (fun t k => XS.aloadN X1.here hx rfl (hb hby d6_4) rfl rfl k) ?_
  show Go _ _ _ _ (T1.setTop (mkF m 5 #[rv sa, rv sb, .val .null, .unset, .unset] [(.ref sb)]))
  obtain ⟨cq2, kq2, q2a, q2b, q2c⟩ := isOf hZ e1 H4
  obtain ⟨_, _, ⟨T2, L2, kk2, nn2⟩, -, X2, ⟨Lc2, hQ2, lq2, yq2, zq2⟩, st2⟩ := X1.virtualBack hx (y := mn7) (z := mn7) hown (mvT hZ (w52 hw)) (mvT hZ (w53 hw)) (notFace_of_selects (args := #[]) (mvT hZ (w55 hw))) (mvT hZ (w55 hw)) (mvT hZ (w54 hw)) (by decide) (backOf (W := 0) (rm_getv l Z a0 hw [] sb va h0 n0 (Nat.le_trans Z0 (Nat.le_refl _)) H5) hZ (w56 hw) (w20 hw) (by decide) (by decide)) q2a q2c (g := (mkF m 5 #[rv sa, rv sb, .val .null, .unset, .unset] [(.ref sb)])) rfl (by rw [hml]; rfl) (Steps.refl _) (argsL := []) (rest := []) (lenOf pd_2 rfl) rfl (by show 2 * 0 + _ ≤ _; exact Nat.le_of_eq rfl) (hb hby d6_5) (fun _ _ => ⟨rfl, e1, (by decide : 0 + 0 ≤ _), (by decide : 0 + 0 ≤ _)⟩)
  dsimp only [Pt.U, Pt.locs, Pt.cells, Pt.slots] at X2 lq2 yq2 zq2 st2 hQ2
  subst lq2 yq2 zq2
  obtain ⟨h2, e2⟩ : ∃ z, T2.heap = z := ⟨_, rfl⟩
  rw [e2] at hQ2
  obtain ⟨rfl, N2q, he2⟩ := hQ2
  have N2 := Fr.app N0 N2q
  rw [he2] at e2
  refine go_tr st2 ?_
  refine go_st (fun t k => XS.astoreN X2.here hx rfl (hb hby d6_8) rfl rfl (l' := #[rv sa, rv sb, .val .null, rv va, .unset]) rfl k) ?_
  refine go_st (fun t k => XS.aloadN X2.here hx rfl (hb hby d6_9) rfl rfl k) ?_
  show Go _ _ _ _ (T2.setTop (mkF m 10 #[rv sa, rv sb, .val .null, rv va, .unset] [(.ref sb)]))
  obtain ⟨cq3, kq3, q3a, q3b, q3c⟩ := isOf hZ e2 H4
  obtain ⟨_, _, ⟨T3, L3, kk3, nn3⟩, -, X3, ⟨Lc3, hQ3, lq3, yq3, zq3⟩, st3⟩ := X2.virtualBack hx (y := mn9) (z := mn8) hown (mvT hZ (w57 hw)) (mvT hZ (w58 hw)) (nf_same (y := mn9) (y' := mn7) (a0 := #[]) rfl (mvT hZ (w54 hw)) (notFace_of_selects (args := #[]) (mvT hZ (w55 hw)))) (mvT hZ (w60 hw)) (mvT hZ (w61 hw)) (by decide) (backOf (W := 0) (rm_sb_len2 l Z a0 hw [] sb h0 n0 (Nat.le_trans Z0 (Nat.le_refl _)) H4 H7) hZ (w62 hw) (w12 hw) (by decide) (by decide)) q3a q3c (g := (mkF m 10 #[rv sa, rv sb, .val .null, rv va, .unset] [(.ref sb)])) rfl (by rw [hml]; rfl) (Steps.refl _) (argsL := []) (rest := []) (lenOf pd_3 rfl) rfl (by show 2 * 0 + _ ≤ _; exact Nat.le_of_eq rfl) (hb hby d6_10) (fun _ _ => ⟨rfl, e2, (by decide : 0 + 0 ≤ _), (by decide : 0 + 0 ≤ _)⟩)
  dsimp only [Pt.U, Pt.locs, Pt.cells, Pt.slots] at X3 lq3 yq3 zq3 st3 hQ3
  subst lq3 yq3 zq3
  obtain ⟨h3, e3⟩ : ∃ z, T3.heap = z := ⟨_, rfl⟩
  rw [e3] at hQ3
  obtain ⟨rfl, N3q, he3⟩ := hQ3
  have N3 := Fr.app N2 N3q
  rw [he3] at e3
  refine go_tr st3 ?_
  refine go_st (fun t k => XS.istore X3.here hx rfl (hb hby d6_13) rfl (l' := #[rv sa, rv sb, .val .null, rv va, iv 2]) rfl k) ?_
  refine go_st (fun t k => XS.aloadN X3.here hx rfl (hb hby d6_15) rfl rfl k) ?_
  show Go _ _ _ _ (T3.setTop (mkF m 16 #[rv sa, rv sb, .val .null, rv va, iv 2] [(.ref sb)]))
  obtain ⟨cq4, kq4, q4a, q4b, q4c⟩ := isOf hZ e3 H4
  obtain ⟨_, _, ⟨T4, L4, kk4, nn4⟩, -, X4, ⟨Lc4, hQ4, lq4, yq4, zq4⟩, st4⟩ := X3.virtualBack hx (y := mn10) (z := mn10) hown (mvT hZ (w68 hw)) (mvT hZ (w69 hw)) (nf_same (y := mn10) (y' := mn7) (a0 := #[]) rfl (mvT hZ (w54 hw)) (notFace_of_selects (args := #[]) (mvT hZ (w55 hw)))) (mvT hZ (w71 hw)) (mvT hZ (w70 hw)) (by decide) (backOf (W := 0) (rm_isl l Z a0 hw [] sb G1 h0 n0 (Nat.le_trans Z0 (Nat.le_refl _)) H6 CS CSn O0) hZ (w72 hw) (w20 hw) (by decide) (by decide)) q4a q4c (g := (mkF m 16 #[rv sa, rv sb, .val .null, rv va, iv 2] [(.ref sb)])) rfl (by rw [hml]; rfl) (Steps.refl _) (argsL := []) (rest := []) (lenOf pd_4 rfl) rfl (by show 2 * 0 + _ ≤ _; exact Nat.le_of_eq rfl) (hb hby d6_16) (fun _ _ => ⟨rfl, e3, (by decide : 0 + 0 ≤ _), (by decide : 0 + 0 ≤ _)⟩)
  dsimp only [Pt.U, Pt.locs, Pt.cells, Pt.slots] at X4 lq4 yq4 zq4 st4 hQ4
  subst lq4 yq4 zq4
  obtain ⟨h4, e4⟩ : ∃ z, T4.heap = z := ⟨_, rfl⟩
  rw [e4] at hQ4
  obtain ⟨rfl, N4q, he4⟩ := hQ4
  have N4 := Fr.app N3 N4q
  rw [he4] at e4
  refine go_tr st4 ?_
  show Go _ _ _ _ (T4.setTop (mkF m 19 #[rv sa, rv sb, .val .null, rv va, iv 2] [(.int 1)]))
  refine go_st (fun t k => XS.ifNo X4.here hx rfl (hb hby d6_19) rfl ((if0 _ _).trans (feq ((by decide) : ¬ ((1 : Int32) = (0 : Int32)))).1) k) ?_
  show Go _ _ _ _ (T4.setTop (mkF m 22 #[rv sa, rv sb, .val .null, rv va, iv 2] []))
  refine go_st (fun t k => XS.aloadN X4.here hx rfl (hb hby d6_22) rfl rfl k) ?_
  refine go_st (fun t k => XS.iconst X4.here hx rfl (hb hby d6_23) k) ?_
  show Go _ _ _ _ (T4.setTop (mkF m 24 #[rv sa, rv sb, .val .null, rv va, iv 2] [(.int 0), (.ref sa)]))
  obtain ⟨T5, h5, X5, e5, W5, st5⟩ := putFN X4 hx hZ hown (w73 hw) Via.refl e4 H2 H0 (Or.inr ⟨(w74 hw), rfl, hnm⟩) (w43 hw) (ty := .byte) (v' := (.int 0)) (by decide) rfl rfl (g := (mkF m 24 #[rv sa, rv sb, .val .null, rv va, iv 2] [(.int 0), (.ref sa)])) rfl rfl (hb hby d6_24)
  have N5 := Fr.snoc X5 N4 g_sa
  have f6 : Fld Z h5 sa cST "coder" "B" (.int 0) := H2.same W5
  refine go_st (fun t k => st5 t k) ?_
  refine go_st (fun t k => XS.aloadN X5.here hx rfl (hb hby d6_27) rfl rfl k) ?_
  refine go_st (fun t k => XS.aloadN X5.here hx rfl (hb hby d6_28) rfl rfl k) ?_
  refine go_st (fun t k => XS.iconst X5.here hx rfl (hb hby d6_29) k) ?_
  refine go_st (fun t k => XS.iload X5.here hx rfl (hb hby d6_30) rfl k) ?_
  show Go _ _ _ _ (T5.setTop (mkF m 32 #[rv sa, rv sb, .val .null, rv va, iv 2] [(.int 2), (.int 0), (.ref va), (.ref sa)]))
  have nq7 : va ≠ sa := Ne.symm (Exa.neArv H0 H9 (w43 hw))
  have f8 : Arv Z h5 va kv .byte (16 : Int32) [(.int u0), (.int u1)] (.int (0 : Int32)) := (H9.other W5 nq7)
  obtain ⟨_, _, ⟨T9, L9, kk9, nn9⟩, -, X9, ⟨Lc9, hQ9, lq9, yq9, zq9⟩, st9⟩ := Jvm.LawKit.callS X5 hx (y := mn11) hown (mvT hZ (w75 hw)) (mvT hZ (w76 hw)) (mvT hZ (w77 hw)) (mvT hZ (w78 hw)) (by decide) (backOf (W := 1) (rm_cr2 l Z a0 hw [] va kv u0 u1 h5 n0 (Nat.le_trans Z0 (Nat.le_of_eq W5.size.symm)) f8) hZ (w78 hw) (w77 hw) (by decide) (by decide)) (g := (mkF m 32 #[rv sa, rv sb, .val .null, rv va, iv 2] [(.int 2), (.int 0), (.ref va), (.ref sa)])) rfl (by rw [hml]; rfl) (argsL := [(.ref va), (.int 0), (.int 2)]) (rest := [(.ref sa)]) (lenOf pd_7 rfl) rfl (by show 2 * 0 + _ ≤ _; exact Nat.le_of_eq rfl) (hb hby d6_32) (fun _ _ => ⟨rfl, e5, (by decide : 0 + 1 ≤ _), (by decide : 0 + 2 ≤ _)⟩)
  dsimp only [Pt.U, Pt.locs, Pt.cells, Pt.slots] at X9 lq9 yq9 zq9 st9 hQ9
  subst lq9 yq9 zq9
  obtain ⟨h9, e9⟩ : ∃ z, T9.heap = z := ⟨_, rfl⟩
  rw [e9] at hQ9
  obtain ⟨ta_9, kt_9, rfl, N9q, K9, gf9_0, lf9_0, p9_1⟩ := hQ9
  have N9 := Fr.app N5 N9q
  refine go_st st9 ?_
  show Go _ _ _ _ (T9.setTop (mkF m 35 #[rv sa, rv sb, .val .null, rv va, iv 2] [(.ref ta_9), (.ref sa)]))
  have f10 : Fld Z h9 sa cST "value" "[B" .null := ((H1.other W5 (Or.inr (slot_ne (Or.inr (w94 hw)) (Or.inr (w74 hw)) (by decide) (t := (.array .byte)) (t' := .byte) (by decide) (by decide)))).keep K9 nin0)
  have f11 : Exa Z h9 sa cST := ((H0.wr W5).keep K9)
  obtain ⟨T12, h12, X12, e12, W12, st12⟩ := putF X9 hx hZ hown (host := "") (Or.inl (w93 hw)) Via.refl e9 f10 f11 (Or.inr ⟨(w94 hw), rfl, hnm⟩) (w43 hw) (ty := (.array .byte)) (by decide) rfl rfl (g := (mkF m 35 #[rv sa, rv sb, .val .null, rv va, iv 2] [(.ref ta_9), (.ref sa)])) rfl rfl (hb hby d6_35)
  have N12 := Fr.snoc X12 N9 g_sa
  have f13 : Fld Z h12 sa cST "value" "[B" (.ref ta_9) := f10.same W12
  refine go_st (fun t k => st12 t k) ?_
  refine go_st (fun t k => XS.goto X12.here hx rfl (pc0 := 38) (pc' := 97) rfl (hb hby d6_38) (by decide) (by decide) k) ?_
  show Go _ _ _ _ (T12.setTop (mkF m 97 #[rv sa, rv sb, .val .null, rv va, iv 2] []))
  have f14 : Exa Z h12 sa cST := (f11.wr W12)
  have f15 : Fld Z h12 sa cST "coder" "B" (.int 0) := ((f6.keep K9 nin0).other W12 (Or.inr (slot_ne (Or.inr (w74 hw)) (Or.inr (w94 hw)) (by decide) (t := .byte) (t' := (.array .byte)) (by decide) (by decide))))
  have nq16 : sa ≠ ta_9 := Nat.ne_of_lt (Nat.lt_of_lt_of_le (Nat.lt_of_lt_of_le H0.lt (Nat.le_of_eq W5.size.symm)) lf9_0)
  have f17 : Arv Z h12 ta_9 kt_9 .byte (2 : Int32) [(.int u0), (.int u1)] (.int (0 : Int32)) := (p9_1.other W12 (Ne.symm nq16))
  have ke18 : Keep h0 h5 [sa] := (Keep.wr (Keep.refl h0 [sa]) W5 (Or.inl (List.mem_of_getElem? (i := 0) rfl)))
  have ke19 : Keep h0 h9 [sa] := (Keep.trans ke18 K9 all0)
  have ke20 : Keep h0 h12 [sa] := (Keep.wr ke19 W12 (Or.inl (List.mem_of_getElem? (i := 0) rfl)))
  obtain ⟨fs, hr, hrun, hended, hW, hsame⟩ := X12.leave (v := none) (fun _ => rfl)
  refine ⟨_, _, ?_, hrun, hended, _, _, rfl, ?_, ⟨_, rfl⟩, hW, hsame.mono (by decide) (by decide)⟩
  · exact X12.returnOut hx Bd.returns (hb hby d6_97) hr
  · show Q_strasb2 _ _ _ _ _ _ _ _ _ _ _ _ T12.heap _
    rw [e12]
    exact ⟨ta_9, kt_9, rfl, N12, ke20, gf9_0, (Nat.le_trans (Nat.le_of_eq W5.size.symm) lf9_0), f14, f13, f15, f17⟩
def Q_strsb2 (Z : State) (sa : Addr) (sb : Addr) (va : Addr) (kv : ClassId) (u0 : Int32) (u1 : Int32) (ml : Int32) (G1 : Int32) (h0 : Heap) (n0 : Nat) (vR : Option Value) (h : Heap) (L : List Loc) : Prop := ∃ (ta : Addr) (kt : ClassId), vR = none ∧ Fr n0 L ∧ Keep h0 h [sa] ∧ n0 ≤ ta ∧ h0.size ≤ ta ∧ (Exa Z h sa cST) ∧ (Fld Z h sa cST "value" "[B" (.ref ta)) ∧ (Fld Z h sa cST "coder" "B" (.int 0)) ∧ (Arv Z h ta kt .byte (2 : Int32) [(.int u0), (.int u1)] (.int (0 : Int32)))
theorem ef_strsb2 (m : MethodId) (x0 : Addr) (x1 : Addr) : entryFrame m #[(.ref x0), (.ref x1)] 2 = mkF m 0 #[.val (.ref x0), .val (.ref x1)] [] := by first | (simp [entryFrame, mkF, argsToLocals, Value.category]; done) | rfl
set_option maxRecDepth 65536 in
set_option maxHeartbeats 40000000 in
theorem rm_strsb2 (l : Launch) (Z : State) (a0 : Array Value) (hw : ∀ d ∈ tables_1, d.before a0 Z = true) (ws : List Jvm.Cond) (sa : Addr) (sb : Addr) (va : Addr) (kv : ClassId) (u0 : Int32) (u1 : Int32) (ml : Int32) (G1 : Int32) (h0 : Heap) (n0 : Nat) (Z0 : n0 ≤ h0.size) (H0 : Exa Z h0 sa cST) (H1 : Fld Z h0 sa cST "value" "[B" .null) (H2 : Fld Z h0 sa cST "coder" "B" (.int 0)) (g_sa : n0 ≤ sa) (H4 : Exa Z h0 sb cSB) (H5 : Fld Z h0 sb cAS "value" "[B" (.ref va)) (H6 : Fld Z h0 sb cAS "coder" "B" (.int 0)) (H7 : Fld Z h0 sb cAS "count" "I" (.int 2)) (H8 : Fld Z h0 sb cAS "maybeLatin1" "Z" (.int ml)) (H9 : Arv Z h0 va kv .byte (16 : Int32) [(.int u0), (.int u1)] (.int (0 : Int32))) (CS : Sta Z Z.heap "java/lang/String" "COMPACT_STRINGS" "Z" (.int G1)) (CSn : ¬ (G1 = (0 : Int32))) (O0 : Old Z n0 h0) :
    MetFree l mn5 (head1 (Jvm.Cond.code mn5 jdk_42_method_53_code 2 none :: ws) ({ frames := 4, cells := 1, slots := 2, locals := 65 } : Room)) (fun a U => a = #[(.ref sa), (.ref sb)] ∧ Z.Warmed39 U.vm ∧ U.heap = h0) (fun _ _ _ _ _ => True) (fun _ U o U' => ∃ v L, o = .returned v ∧ Q_strsb2 Z sa sb va kv u0 u1 ml G1 h0 n0 v U'.heap L ∧ FrameEnd U o U' L ({ frames := 4, cells := 1, slots := 2, locals := 65 } : Room).cells ({ frames := 4, cells := 1, slots := 2, locals := 65 } : Room).slots) := by
  refine MetFree.of_bodySF (plainFor_of_name pn_java_lang_String) hisR ?_
  intro p e s m args below meth c s₁ Bd hml0 hP hK
  obtain ⟨rfl, hZ, hh⟩ := hP
  have hx := Bd.exec
  have hby := Bd.bytes
  have hml : c.maxLocals = 2 := hml0
  have hown : s.vm.findClass "java/lang/String" = some m.cls := findClass_of_methodNamed Bd.named
  have hnm := (name_of_methodNamed Bd.named Bd.method).1
  have X0 : Stand p l e ({ frames := 4, cells := 1, slots := 2, locals := 65 } : Room) s m #[(.ref sa), (.ref sb)] below meth c s₁ [] 0 0 := Stand.of_body Bd
  have e0 : s₁.heap = h0 := by rw [← hh, Bd.state]; rfl
  have N0 := Fr.nil n0
  refine go_st (fun t k => castTop (ef_strsb2 m sa sb) k) ?_
  show Go _ _ _ _ (s₁.setTop (mkF m 0 #[rv sa, rv sb] []))
  refine go_st (fun t k => XS.aloadN X0.here hx rfl (hb hby d5_0) rfl rfl k) ?_
  refine go_st (fun t k => XS.aloadN X0.here hx rfl (hb hby d5_1) rfl rfl k) ?_
  refine go_st (fun t k => XS.aconstNull X0.here hx rfl (hb hby d5_2) k) ?_
  show Go _ _ _ _ (s₁.setTop (mkF m 3 #[rv sa, rv sb] [.null, (.ref sb), (.ref sa)]))
  obtain ⟨_, _, ⟨T1, L1, kk1, nn1⟩, -, X1, ⟨Lc1, hQ1, lq1, yq1, zq1⟩, st1⟩ := X0.specialBack hx (y := mn6) rfl hown (mvT hZ (w48 hw)) (mvT hZ (w49 hw)) (mvT hZ (w50 hw)) (by decide) (backOf (W := 0) (rm_strasb2 l Z a0 hw [] sa sb va kv u0 u1 ml G1 h0 n0 (Nat.le_trans Z0 (Nat.le_refl _)) H0 H1 H2 g_sa H4 H5 H6 H7 H8 H9 CS CSn O0) hZ (w50 hw) (w24 hw) (by decide) (by decide)) (g := (mkF m 3 #[rv sa, rv sb] [.null, (.ref sb), (.ref sa)])) rfl (by rw [hml]; rfl) (Steps.refl _) (a := sa) (argsL := [(.ref sb), .null]) (rest := []) (lenOf pd_8 rfl) rfl (by show 2 * 0 + _ ≤ _; exact Nat.le_of_eq rfl) (hb hby d5_3) (fun _ _ => ⟨rfl, e0, (by decide : 0 + 1 ≤ _), (by decide : 0 + 2 ≤ _)⟩)
  dsimp only [Pt.U, Pt.locs, Pt.cells, Pt.slots] at X1 lq1 yq1 zq1 st1 hQ1
  subst lq1 yq1 zq1
  obtain ⟨h1, e1⟩ : ∃ z, T1.heap = z := ⟨_, rfl⟩
  rw [e1] at hQ1
  obtain ⟨ta_1, kt_1, rfl, N1q, K1, gf1_0, lf1_0, p1_1, p1_2, p1_3, p1_4⟩ := hQ1
  have N1 := Fr.app N0 N1q
  refine go_tr st1 ?_
  show Go _ _ _ _ (T1.setTop (mkF m 6 #[rv sa, rv sb] []))
  have ke2 : Keep h0 h1 [sa] := (Keep.trans (Keep.refl h0 [sa]) K1 (allS (Or.inl (List.mem_of_getElem? (i := 0) rfl)) all0))
  obtain ⟨fs, hr, hrun, hended, hW, hsame⟩ := X1.leave (v := none) (fun _ => rfl)
  refine ⟨_, _, ?_, hrun, hended, _, _, rfl, ?_, ⟨_, rfl⟩, hW, hsame.mono (by decide) (by decide)⟩
  · exact X1.returnOut hx Bd.returns (hb hby d5_6) hr
  · show Q_strsb2 _ _ _ _ _ _ _ _ _ _ _ _ T1.heap _
    rw [e1]
    exact ⟨ta_1, kt_1, rfl, N1, ke2, gf1_0, lf1_0, p1_1, p1_2, p1_3, p1_4⟩
def Q_tos2 (Z : State) (sb : Addr) (va : Addr) (kv : ClassId) (u0 : Int32) (u1 : Int32) (ml : Int32) (G1 : Int32) (h0 : Heap) (n0 : Nat) (vR : Option Value) (h : Heap) (L : List Loc) : Prop := ∃ (sa : Addr) (ta : Addr) (kt : ClassId), vR = some (.ref sa) ∧ Fr n0 L ∧ Keep h0 h [] ∧ n0 ≤ sa ∧ h0.size ≤ sa ∧ n0 ≤ ta ∧ h0.size ≤ ta ∧ (Exa Z h sa cST) ∧ (Fld Z h sa cST "value" "[B" (.ref ta)) ∧ (Fld Z h sa cST "coder" "B" (.int 0)) ∧ (Arv Z h ta kt .byte (2 : Int32) [(.int u0), (.int u1)] (.int (0 : Int32)))
theorem ef_tos2 (m : MethodId) (x0 : Addr) : entryFrame m #[(.ref x0)] 1 = mkF m 0 #[.val (.ref x0)] [] := by first | (simp [entryFrame, mkF, argsToLocals, Value.category]; done) | rfl
set_option maxRecDepth 65536 in
set_option maxHeartbeats 40000000 in
theorem rm_tos2 (l : Launch) (Z : State) (a0 : Array Value) (hw : ∀ d ∈ tables_1, d.before a0 Z = true) (ws : List Jvm.Cond) (sb : Addr) (va : Addr) (kv : ClassId) (u0 : Int32) (u1 : Int32) (ml : Int32) (G1 : Int32) (h0 : Heap) (n0 : Nat) (Z0 : n0 ≤ h0.size) (H0 : Exa Z h0 sb cSB) (H1 : Fld Z h0 sb cAS "value" "[B" (.ref va)) (H2 : Fld Z h0 sb cAS "coder" "B" (.int 0)) (H3 : Fld Z h0 sb cAS "count" "I" (.int 2)) (H4 : Fld Z h0 sb cAS "maybeLatin1" "Z" (.int ml)) (H5 : Arv Z h0 va kv .byte (16 : Int32) [(.int u0), (.int u1)] (.int (0 : Int32))) (CS : Sta Z Z.heap "java/lang/String" "COMPACT_STRINGS" "Z" (.int G1)) (CSn : ¬ (G1 = (0 : Int32))) (O0 : Old Z n0 h0) :
    MetFree l mn4 (head1 (Jvm.Cond.code mn4 jdk_67_method_42_code 1 (some (.object "java/lang/String")) :: ws) ({ frames := 5, cells := 2, slots := 6, locals := 79 } : Room)) (fun a U => a = #[(.ref sb)] ∧ Z.Warmed39 U.vm ∧ U.heap = h0) (fun _ _ _ _ _ => True) (fun _ U o U' => ∃ v L, o = .returned v ∧ Q_tos2 Z sb va kv u0 u1 ml G1 h0 n0 v U'.heap L ∧ FrameEnd U o U' L ({ frames := 5, cells := 2, slots := 6, locals := 79 } : Room).cells ({ frames := 5, cells := 2, slots := 6, locals := 79 } : Room).slots) := by
  refine MetFree.of_bodySF (plainFor_of_name pn_java_lang_StringBuilder) hisR ?_
  intro p e s m args below meth c s₁ Bd hml0 hP hK
  obtain ⟨rfl, hZ, hh⟩ := hP
  have hx := Bd.exec
  have hby := Bd.bytes
  have hml : c.maxLocals = 1 := hml0
  have hown : s.vm.findClass "java/lang/StringBuilder" = some m.cls := findClass_of_methodNamed Bd.named
  have hnm := (name_of_methodNamed Bd.named Bd.method).1
  have X0 : Stand p l e ({ frames := 5, cells := 2, slots := 6, locals := 79 } : Room) s m #[(.ref sb)] below meth c s₁ [] 0 0 := Stand.of_body Bd
  have e0 : s₁.heap = h0 := by rw [← hh, Bd.state]; rfl
  have N0 := Fr.nil n0
  refine go_st (fun t k => castTop (ef_tos2 m sb) k) ?_
  show Go _ _ _ _ (s₁.setTop (mkF m 0 #[rv sb] []))
  obtain ⟨T1, h1, X1, e1, E1, A1, D1, -, st1⟩ := newO X0 hx hZ hown (w42 hw) (w43 hw) (w24 hw) e0 (g := (mkF m 0 #[rv sb] [])) rfl (hb hby d4_0) (by decide) (by decide)
  obtain ⟨b1, gq1⟩ : ∃ z, z = h0.size := ⟨_, rfl⟩
  rw [← gq1] at A1 D1 st1
  have f2 : Fld Z h1 b1 cST "coder" "B" (.int 0) := D1 (Or.inr (w74 hw)) (ty := .byte) (by decide)
  have f3 : Fld Z h1 b1 cST "value" "[B" .null := D1 (Or.inr (w94 hw)) (ty := (.array .byte)) (by decide)
  refine go_st (fun t k => st1 t k) ?_
  refine go_st (fun t k => XS.dup X1.here hx rfl (hb hby d4_3) rfl rfl k) ?_
  refine go_st (fun t k => XS.aloadN X1.here hx rfl (hb hby d4_4) rfl rfl k) ?_
  show Go _ _ _ _ (T1.setTop (mkF m 5 #[rv sb] [(.ref sb), (.ref b1), (.ref b1)]))
  have g_b1 : n0 ≤ b1 := Nat.le_trans (Nat.le_trans Z0 (Nat.le_refl _)) (Nat.le_of_eq gq1.symm)
  have f4 : Exa Z h1 sb cSB := (H0.ext E1)
  have f5 : Fld Z h1 sb cAS "value" "[B" (.ref va) := (H1.ext E1)
  have f6 : Fld Z h1 sb cAS "coder" "B" (.int 0) := (H2.ext E1)
  have f7 : Fld Z h1 sb cAS "count" "I" (.int 2) := (H3.ext E1)
  have f8 : Fld Z h1 sb cAS "maybeLatin1" "Z" (.int ml) := (H4.ext E1)
  have f9 : Arv Z h1 va kv .byte (16 : Int32) [(.int u0), (.int u1)] (.int (0 : Int32)) := (H5.ext E1)
  have oe10 : Old Z n0 h1 := (Old.ext O0 E1)
  obtain ⟨_, _, ⟨T11, L11, kk11, nn11⟩, -, X11, ⟨Lc11, hQ11, lq11, yq11, zq11⟩, st11⟩ := X1.specialBack hx (y := mn5) rfl hown (mvT hZ (w44 hw)) (mvT hZ (w45 hw)) (mvT hZ (w47 hw)) (by decide) (backOf (W := 1) (rm_strsb2 l Z a0 hw [] b1 sb va kv u0 u1 ml G1 h1 n0 (Nat.le_trans Z0 E1.1) A1 f3 f2 g_b1 f4 f5 f6 f7 f8 f9 CS CSn oe10) hZ (w47 hw) (w24 hw) (by decide) (by decide)) (g := (mkF m 5 #[rv sb] [(.ref sb), (.ref b1), (.ref b1)])) rfl (by rw [hml]; rfl) (Steps.refl _) (a := b1) (argsL := [(.ref sb)]) (rest := [(.ref b1)]) (lenOf pd_9 rfl) rfl (by show 2 * 0 + _ ≤ _; exact Nat.le_of_eq rfl) (hb hby d4_5) (fun _ _ => ⟨rfl, e1, (by decide : 1 + 1 ≤ _), (by decide : 4 + 2 ≤ _)⟩)
  dsimp only [Pt.U, Pt.locs, Pt.cells, Pt.slots] at X11 lq11 yq11 zq11 st11 hQ11
  subst lq11 yq11 zq11
  obtain ⟨h11, e11⟩ : ∃ z, T11.heap = z := ⟨_, rfl⟩
  rw [e11] at hQ11
  obtain ⟨ta_11, kt_11, rfl, N11q, K11, gf11_0, lf11_0, p11_1, p11_2, p11_3, p11_4⟩ := hQ11
  have N11 := Fr.app N0 N11q
  refine go_tr st11 ?_
  show Go _ _ _ _ (T11.setTop (mkF m 8 #[rv sb] [(.ref b1)]))
  have ke12 : Keep h0 h1 [] := (Keep.ext (Keep.refl h0 []) E1)
  have ke13 : Keep h0 h11 [] := (Keep.trans ke12 K11 (allS (Or.inr (Nat.le_of_eq gq1.symm)) all0))
  obtain ⟨fs, hr, hrun, hended, hW, hsame⟩ := X11.leave (v := some (.ref b1)) (fun h => by rw [Bd.returns] at h; cases h)
  refine ⟨_, _, ?_, hrun, hended, _, _, rfl, ?_, ⟨_, rfl⟩, hW, hsame.mono (by decide) (by decide)⟩
  · exact retOut X11 hx Bd.returns rfl (Or.inr (Or.inr (Or.inr (Or.inr ⟨rfl, rfl, rfl⟩)))) (hb hby d4_8) hr
  · show Q_tos2 _ _ _ _ _ _ _ _ _ _ _ T11.heap _
    rw [e11]
    exact ⟨b1, ta_11, kt_11, rfl, N11, ke13, g_b1, (Nat.le_of_eq gq1.symm), gf11_0, (Nat.le_trans E1.1 lf11_0), p11_1, p11_2, p11_3, p11_4⟩
def Q_asbset2 (Z : State) (sb : Addr) (va : Addr) (kv : ClassId) (u0 : Int32) (u1 : Int32) (ml : Int32) (G1 : Int32) (h0 : Heap) (n0 : Nat) (vR : Option Value) (h : Heap) (L : List Loc) : Prop := vR = none ∧ Fr n0 L ∧ Keep h0 h [sb] ∧ (Exa Z h sb cSB) ∧ (Fld Z h sb cAS "value" "[B" (.ref va)) ∧ (Fld Z h sb cAS "coder" "B" (.int 0)) ∧ (Fld Z h sb cAS "count" "I" (.int 0)) ∧ (Fld Z h sb cAS "maybeLatin1" "Z" (.int 1))
theorem ef_asbset2 (m : MethodId) (x0 : Addr) (x1 : Int32) : entryFrame m #[(.ref x0), (.int x1)] 2 = mkF m 0 #[.val (.ref x0), .val (.int x1)] [] := by first | (simp [entryFrame, mkF, argsToLocals, Value.category]; done) | rfl
set_option maxRecDepth 65536 in
set_option maxHeartbeats 40000000 in
theorem rm_asbset2 (l : Launch) (Z : State) (a0 : Array Value) (hw : ∀ d ∈ tables_1, d.before a0 Z = true) (ws : List Jvm.Cond) (sb : Addr) (va : Addr) (kv : ClassId) (u0 : Int32) (u1 : Int32) (ml : Int32) (G1 : Int32) (h0 : Heap) (n0 : Nat) (Z0 : n0 ≤ h0.size) (H0 : Exa Z h0 sb cSB) (H1 : Fld Z h0 sb cAS "value" "[B" (.ref va)) (H2 : Fld Z h0 sb cAS "coder" "B" (.int 0)) (H3 : Fld Z h0 sb cAS "count" "I" (.int 2)) (H4 : Fld Z h0 sb cAS "maybeLatin1" "Z" (.int ml)) (H5 : Arv Z h0 va kv .byte (16 : Int32) [(.int u0), (.int u1)] (.int (0 : Int32))) (g_sb : n0 ≤ sb) (CS : Sta Z Z.heap "java/lang/String" "COMPACT_STRINGS" "Z" (.int G1)) (CSn : ¬ (G1 = (0 : Int32))) (O0 : Old Z n0 h0) :
    MetFree l mn16 (head1 (Jvm.Cond.code mn16 jdk_68_method_13_code 2 none :: ws) ({ frames := 1, cells := 0, slots := 0, locals := 14 } : Room)) (fun a U => a = #[(.ref sb), (.int 0)] ∧ Z.Warmed39 U.vm ∧ U.heap = h0) (fun _ _ _ _ _ => True) (fun _ U o U' => ∃ v L, o = .returned v ∧ Q_asbset2 Z sb va kv u0 u1 ml G1 h0 n0 v U'.heap L ∧ FrameEnd U o U' L ({ frames := 1, cells := 0, slots := 0, locals := 14 } : Room).cells ({ frames := 1, cells := 0, slots := 0, locals := 14 } : Room).slots) := by
  refine MetFree.of_bodySF (plainFor_of_name pn_java_lang_AbstractStringBuilder) hisR ?_
  intro p e s m args below meth c s₁ Bd hml0 hP hK
  obtain ⟨rfl, hZ, hh⟩ := hP
  have hx := Bd.exec
  have hby := Bd.bytes
  have hml : c.maxLocals = 2 := hml0
  have hown : s.vm.findClass "java/lang/AbstractStringBuilder" = some m.cls := findClass_of_methodNamed Bd.named
  have hnm := (name_of_methodNamed Bd.named Bd.method).1
  have X0 : Stand p l e ({ frames := 1, cells := 0, slots := 0, locals := 14 } : Room) s m #[(.ref sb), (.int 0)] below meth c s₁ [] 0 0 := Stand.of_body Bd
  have e0 : s₁.heap = h0 := by rw [← hh, Bd.state]; rfl
  have N0 := Fr.nil n0
  refine go_st (fun t k => castTop (ef_asbset2 m sb (0 : Int32)) k) ?_
  show Go _ _ _ _ (s₁.setTop (mkF m 0 #[rv sb, iv 0] []))
  refine go_st (fun t k => XS.iloadN X0.here hx rfl (hb hby d16_0) rfl k) ?_
  show Go _ _ _ _ (s₁.setTop (mkF m 1 #[rv sb, iv 0] [(.int 0)]))
  refine go_st (fun t k => XS.ifYes X0.here hx rfl (pc0 := 1) (pc' := 13) rfl (hb hby d16_1) rfl ((if0 _ _).trans (flt ((by decide) : ¬ ((0 : Int32) < (0 : Int32)))).2.1) (by decide) (by decide) k) ?_
  show Go _ _ _ _ (s₁.setTop (mkF m 13 #[rv sb, iv 0] []))
  refine go_st (fun t k => XS.aloadN X0.here hx rfl (hb hby d16_13) rfl rfl k) ?_
  refine go_st (fun t k => XS.iloadN X0.here hx rfl (hb hby d16_14) rfl k) ?_
  show Go _ _ _ _ (s₁.setTop (mkF m 15 #[rv sb, iv 0] [(.int 0), (.ref sb)]))
  obtain ⟨cq1, q1, q1'⟩ := H0.cell
  obtain ⟨_, _, ⟨T1, L1, kk1, nn1⟩, -, X1, ⟨Lc1, hQ1, lq1, yq1, zq1⟩, st1⟩ := X0.privateBack hx (y := mn17) hown (mvT hZ (w104 hw)) (mvT hZ (w105 hw)) (mvT hZ (sel_priv (w106 hw) (w105 hw) (nf_same (y := mn17) (y' := mn7) rfl (w54 hw) (notFace_of_selects (w55 hw))) (by decide))) (Cond.privateMethod_at (mvP hZ (w106 hw) (args := #[]))) (mvT hZ (w108 hw)) (by decide) (backOf (W := 0) (rm_ens0 l Z a0 hw [] sb va kv u0 u1 h0 n0 (Nat.le_trans Z0 (Nat.le_refl _)) H1 H2 H5) hZ (w108 hw) (w20 hw) (by decide) (by decide)) (g := (mkF m 15 #[rv sb, iv 0] [(.int 0), (.ref sb)])) rfl (by rw [hml]; rfl) (Steps.refl _) (a := sb) (by rw [e0]; exact q1) q1' (argsL := [(.int 0)]) (rest := []) (lenOf pd_0 rfl) rfl (by show 2 * 0 + _ ≤ _; exact Nat.le_of_eq rfl) (hb hby d16_15) (fun _ _ => ⟨rfl, e0, (by decide : 0 + 0 ≤ _), (by decide : 0 + 0 ≤ _)⟩)
  dsimp only [Pt.U, Pt.locs, Pt.cells, Pt.slots] at X1 lq1 yq1 zq1 st1 hQ1
  subst lq1 yq1 zq1
  obtain ⟨h1, e1⟩ : ∃ z, T1.heap = z := ⟨_, rfl⟩
  rw [e1] at hQ1
  obtain ⟨rfl, N1q, he1⟩ := hQ1
  have N1 := Fr.app N0 N1q
  rw [he1] at e1
  refine go_tr st1 ?_
  refine go_st (fun t k => XS.aloadN X1.here hx rfl (hb hby d16_18) rfl rfl k) ?_
  show Go _ _ _ _ (T1.setTop (mkF m 19 #[rv sb, iv 0] [(.ref sb)]))
  obtain ⟨T2, X2, e2, st2⟩ := getF X1 hx hZ hown (host := "") (Or.inl (w66 hw)) Via.refl e1 H3 (g := (mkF m 19 #[rv sb, iv 0] [(.ref sb)])) rfl rfl (hb hby d16_19)
  refine go_st (fun t k => st2 t k) ?_
  refine go_st (fun t k => XS.iloadN X2.here hx rfl (hb hby d16_22) rfl k) ?_
  show Go _ _ _ _ (T2.setTop (mkF m 23 #[rv sb, iv 0] [(.int 0), (.int 2)]))
  refine go_st (fun t k => XS.icmpYes X2.here hx rfl (pc0 := 23) (pc' := 63) rfl (hb hby d16_23) rfl (flt ((by decide) : ¬ ((2 : Int32) < (0 : Int32)))).2.1 (by decide) (by decide) k) ?_
  show Go _ _ _ _ (T2.setTop (mkF m 63 #[rv sb, iv 0] []))
  refine go_st (fun t k => XS.aloadN X2.here hx rfl (hb hby d16_63) rfl rfl k) ?_
  show Go _ _ _ _ (T2.setTop (mkF m 64 #[rv sb, iv 0] [(.ref sb)]))
  obtain ⟨T3, X3, e3, st3⟩ := getF X2 hx hZ hown (host := "") (Or.inl (w66 hw)) Via.refl e2 H3 (g := (mkF m 64 #[rv sb, iv 0] [(.ref sb)])) rfl rfl (hb hby d16_64)
  refine go_st (fun t k => st3 t k) ?_
  refine go_st (fun t k => XS.iloadN X3.here hx rfl (hb hby d16_67) rfl k) ?_
  show Go _ _ _ _ (T3.setTop (mkF m 68 #[rv sb, iv 0] [(.int 0), (.int 2)]))
  refine go_st (fun t k => XS.icmpNo X3.here hx rfl (hb hby d16_68) rfl (tlt ((by decide) : (0 : Int32) < (2 : Int32))).2.2.2 k) ?_
  show Go _ _ _ _ (T3.setTop (mkF m 71 #[rv sb, iv 0] []))
  refine go_st (fun t k => XS.aloadN X3.here hx rfl (hb hby d16_71) rfl rfl k) ?_
  refine go_st (fun t k => XS.iconst X3.here hx rfl (hb hby d16_72) k) ?_
  show Go _ _ _ _ (T3.setTop (mkF m 73 #[rv sb, iv 0] [(.int 1), (.ref sb)]))
  obtain ⟨T4, h4, X4, e4, W4, st4⟩ := putFN X3 hx hZ hown (w138 hw) Via.refl e3 H4 H0 (Or.inl (w139 hw)) (w11 hw) (ty := .boolean) (v' := (.int 1)) (by decide) rfl rfl (g := (mkF m 73 #[rv sb, iv 0] [(.int 1), (.ref sb)])) rfl rfl (hb hby d16_73)
  have N4 := Fr.snoc X4 N1 g_sb
  have f5 : Fld Z h4 sb cAS "maybeLatin1" "Z" (.int 1) := H4.same W4
  refine go_st (fun t k => st4 t k) ?_
  refine go_st (fun t k => XS.aloadN X4.here hx rfl (hb hby d16_76) rfl rfl k) ?_
  refine go_st (fun t k => XS.iloadN X4.here hx rfl (hb hby d16_77) rfl k) ?_
  show Go _ _ _ _ (T4.setTop (mkF m 78 #[rv sb, iv 0] [(.int 0), (.ref sb)]))
  have f6 : Fld Z h4 sb cAS "count" "I" (.int 2) := (H3.other W4 (Or.inr (slot_ne (Or.inl (w67 hw)) (Or.inl (w139 hw)) (by decide) (t := .int) (t' := .boolean) (by decide) (by decide))))
  have f7 : Exa Z h4 sb cSB := (H0.wr W4)
  obtain ⟨T8, h8, X8, e8, W8, st8⟩ := putF X4 hx hZ hown (host := "") (Or.inl (w66 hw)) Via.refl e4 f6 f7 (Or.inl (w67 hw)) (w11 hw) (ty := .int) (by decide) rfl rfl (g := (mkF m 78 #[rv sb, iv 0] [(.int 0), (.ref sb)])) rfl rfl (hb hby d16_78)
  have N8 := Fr.snoc X8 N4 g_sb
  have f9 : Fld Z h8 sb cAS "count" "I" (.int 0) := f6.same W8
  refine go_st (fun t k => st8 t k) ?_
  show Go _ _ _ _ (T8.setTop (mkF m 81 #[rv sb, iv 0] []))
  have f10 : Exa Z h8 sb cSB := (f7.wr W8)
  have f11 : Fld Z h8 sb cAS "value" "[B" (.ref va) := ((H1.other W4 (Or.inr (slot_ne (Or.inl (w27 hw)) (Or.inl (w139 hw)) (by decide) (t := (.array .byte)) (t' := .boolean) (by decide) (by decide)))).other W8 (Or.inr (slot_ne (Or.inl (w27 hw)) (Or.inl (w67 hw)) (by decide) (t := (.array .byte)) (t' := .int) (by decide) (by decide))))
  have f12 : Fld Z h8 sb cAS "coder" "B" (.int 0) := ((H2.other W4 (Or.inr (slot_ne (Or.inl (w29 hw)) (Or.inl (w139 hw)) (by decide) (t := .byte) (t' := .boolean) (by decide) (by decide)))).other W8 (Or.inr (slot_ne (Or.inl (w29 hw)) (Or.inl (w67 hw)) (by decide) (t := .byte) (t' := .int) (by decide) (by decide))))
  have f13 : Fld Z h8 sb cAS "maybeLatin1" "Z" (.int 1) := (f5.other W8 (Or.inr (slot_ne (Or.inl (w139 hw)) (Or.inl (w67 hw)) (by decide) (t := .boolean) (t' := .int) (by decide) (by decide))))
  have ke14 : Keep h0 h4 [sb] := (Keep.wr (Keep.refl h0 [sb]) W4 (Or.inl (List.mem_of_getElem? (i := 0) rfl)))
  have ke15 : Keep h0 h8 [sb] := (Keep.wr ke14 W8 (Or.inl (List.mem_of_getElem? (i := 0) rfl)))
  obtain ⟨fs, hr, hrun, hended, hW, hsame⟩ := X8.leave (v := none) (fun _ => rfl)
  refine ⟨_, _, ?_, hrun, hended, _, _, rfl, ?_, ⟨_, rfl⟩, hW, hsame.mono (by decide) (by decide)⟩
  · exact X8.returnOut hx Bd.returns (hb hby d16_81) hr
  · show Q_asbset2 _ _ _ _ _ _ _ _ _ _ _ T8.heap _
    rw [e8]
    exact ⟨rfl, N8, ke15, f10, f11, f12, f9, f13⟩
def Q_sbset2 (Z : State) (sb : Addr) (va : Addr) (kv : ClassId) (u0 : Int32) (u1 : Int32) (ml : Int32) (G1 : Int32) (h0 : Heap) (n0 : Nat) (vR : Option Value) (h : Heap) (L : List Loc) : Prop := vR = none ∧ Fr n0 L ∧ Keep h0 h [sb] ∧ (Exa Z h sb cSB) ∧ (Fld Z h sb cAS "value" "[B" (.ref va)) ∧ (Fld Z h sb cAS "coder" "B" (.int 0)) ∧ (Fld Z h sb cAS "count" "I" (.int 0)) ∧ (Fld Z h sb cAS "maybeLatin1" "Z" (.int 1))
theorem ef_sbset2 (m : MethodId) (x0 : Addr) (x1 : Int32) : entryFrame m #[(.ref x0), (.int x1)] 2 = mkF m 0 #[.val (.ref x0), .val (.int x1)] [] := by first | (simp [entryFrame, mkF, argsToLocals, Value.category]; done) | rfl
set_option maxRecDepth 65536 in
set_option maxHeartbeats 40000000 in
theorem rm_sbset2 (l : Launch) (Z : State) (a0 : Array Value) (hw : ∀ d ∈ tables_1, d.before a0 Z = true) (ws : List Jvm.Cond) (sb : Addr) (va : Addr) (kv : ClassId) (u0 : Int32) (u1 : Int32) (ml : Int32) (G1 : Int32) (h0 : Heap) (n0 : Nat) (Z0 : n0 ≤ h0.size) (H0 : Exa Z h0 sb cSB) (H1 : Fld Z h0 sb cAS "value" "[B" (.ref va)) (H2 : Fld Z h0 sb cAS "coder" "B" (.int 0)) (H3 : Fld Z h0 sb cAS "count" "I" (.int 2)) (H4 : Fld Z h0 sb cAS "maybeLatin1" "Z" (.int ml)) (H5 : Arv Z h0 va kv .byte (16 : Int32) [(.int u0), (.int u1)] (.int (0 : Int32))) (g_sb : n0 ≤ sb) (CS : Sta Z Z.heap "java/lang/String" "COMPACT_STRINGS" "Z" (.int G1)) (CSn : ¬ (G1 = (0 : Int32))) (O0 : Old Z n0 h0) :
    MetFree l mn15 (head1 (Jvm.Cond.code mn15 jdk_67_method_89_code 2 none :: ws) ({ frames := 2, cells := 0, slots := 0, locals := 27 } : Room)) (fun a U => a = #[(.ref sb), (.int 0)] ∧ Z.Warmed39 U.vm ∧ U.heap = h0) (fun _ _ _ _ _ => True) (fun _ U o U' => ∃ v L, o = .returned v ∧ Q_sbset2 Z sb va kv u0 u1 ml G1 h0 n0 v U'.heap L ∧ FrameEnd U o U' L ({ frames := 2, cells := 0, slots := 0, locals := 27 } : Room).cells ({ frames := 2, cells := 0, slots := 0, locals := 27 } : Room).slots) := by
  refine MetFree.of_bodySF (plainFor_of_name pn_java_lang_StringBuilder) hisR ?_
  intro p e s m args below meth c s₁ Bd hml0 hP hK
  obtain ⟨rfl, hZ, hh⟩ := hP
  have hx := Bd.exec
  have hby := Bd.bytes
  have hml : c.maxLocals = 2 := hml0
  have hown : s.vm.findClass "java/lang/StringBuilder" = some m.cls := findClass_of_methodNamed Bd.named
  have hnm := (name_of_methodNamed Bd.named Bd.method).1
  have X0 : Stand p l e ({ frames := 2, cells := 0, slots := 0, locals := 27 } : Room) s m #[(.ref sb), (.int 0)] below meth c s₁ [] 0 0 := Stand.of_body Bd
  have e0 : s₁.heap = h0 := by rw [← hh, Bd.state]; rfl
  have N0 := Fr.nil n0
  refine go_st (fun t k => castTop (ef_sbset2 m sb (0 : Int32)) k) ?_
  show Go _ _ _ _ (s₁.setTop (mkF m 0 #[rv sb, iv 0] []))
  refine go_st (fun t k => XS.aloadN X0.here hx rfl (hb hby d15_0) rfl rfl k) ?_
  refine go_st (fun t k => XS.iloadN X0.here hx rfl (hb hby d15_1) rfl k) ?_
  show Go _ _ _ _ (s₁.setTop (mkF m 2 #[rv sb, iv 0] [(.int 0), (.ref sb)]))
  obtain ⟨_, _, ⟨T1, L1, kk1, nn1⟩, -, X1, ⟨Lc1, hQ1, lq1, yq1, zq1⟩, st1⟩ := superBack X0 hx hZ (y := mn16) hown (w100 hw) (same_self (w101 hw) (nf_same (y := mn16) (y' := mn7) rfl (w54 hw) (notFace_of_selects (w55 hw))) (by decide)) (w101 hw) (w64 hw) (by decide) (backOf (W := 0) (rm_asbset2 l Z a0 hw [] sb va kv u0 u1 ml G1 h0 n0 (Nat.le_trans Z0 (Nat.le_refl _)) H0 H1 H2 H3 H4 H5 g_sb CS CSn O0) hZ (w103 hw) (w20 hw) (by decide) (by decide)) e0 (a := sb) (Ins.self H0) (g := (mkF m 2 #[rv sb, iv 0] [(.int 0), (.ref sb)])) rfl (by rw [hml]; rfl) (w103 hw) (argsL := [(.int 0)]) (rest := []) (lenOf pd_0 rfl) rfl (by show 2 * 0 + _ ≤ _; exact Nat.le_of_eq rfl) (hb hby d15_2) (fun _ _ => ⟨rfl, e0, (by decide : 0 + 0 ≤ _), (by decide : 0 + 0 ≤ _)⟩)
  dsimp only [Pt.U, Pt.locs, Pt.cells, Pt.slots] at X1 lq1 yq1 zq1 st1 hQ1
  subst lq1 yq1 zq1
  obtain ⟨h1, e1⟩ : ∃ z, T1.heap = z := ⟨_, rfl⟩
  rw [e1] at hQ1
  obtain ⟨rfl, N1q, K1, p1_0, p1_1, p1_2, p1_3, p1_4⟩ := hQ1
  have N1 := Fr.app N0 N1q
  refine go_tr st1 ?_
  show Go _ _ _ _ (T1.setTop (mkF m 5 #[rv sb, iv 0] []))
  have ke2 : Keep h0 h1 [sb] := (Keep.trans (Keep.refl h0 [sb]) K1 (allS (Or.inl (List.mem_of_getElem? (i := 0) rfl)) all0))
  obtain ⟨fs, hr, hrun, hended, hW, hsame⟩ := X1.leave (v := none) (fun _ => rfl)
  refine ⟨_, _, ?_, hrun, hended, _, _, rfl, ?_, ⟨_, rfl⟩, hW, hsame.mono (by decide) (by decide)⟩
  · exact X1.returnOut hx Bd.returns (hb hby d15_5) hr
  · show Q_sbset2 _ _ _ _ _ _ _ _ _ _ _ T1.heap _
    rw [e1]
    exact ⟨rfl, N1, ke2, p1_0, p1_1, p1_2, p1_3, p1_4⟩
def Q_drain2 (Z : State) (jw : Addr) (sb : Addr) (va : Addr) (kv : ClassId) (u0 : Int32) (u1 : Int32) (ml : Int32) (G1 : Int32) (h0 : Heap) (n0 : Nat) (vR : Option Value) (h : Heap) (L : List Loc) : Prop := ∃ (sa : Addr) (ta : Addr) (kt : ClassId), vR = some (.ref sa) ∧ Fr n0 L ∧ Keep h0 h [sb] ∧ n0 ≤ sa ∧ h0.size ≤ sa ∧ n0 ≤ ta ∧ h0.size ≤ ta ∧ (Exa Z h sa cST) ∧ (Fld Z h sa cST "value" "[B" (.ref ta)) ∧ (Fld Z h sa cST "coder" "B" (.int 0)) ∧ (Arv Z h ta kt .byte (2 : Int32) [(.int u0), (.int u1)] (.int (0 : Int32))) ∧ (Exa Z h sb cSB) ∧ (Fld Z h sb cAS "value" "[B" (.ref va)) ∧ (Fld Z h sb cAS "coder" "B" (.int 0)) ∧ (Fld Z h sb cAS "count" "I" (.int 0)) ∧ (Fld Z h sb cAS "maybeLatin1" "Z" (.int 1))
theorem ef_drain2 (m : MethodId) (x0 : Addr) : entryFrame m #[(.ref x0)] 2 = mkF m 0 #[.val (.ref x0), .unset] [] := by first | (simp [entryFrame, mkF, argsToLocals, Value.category]; done) | rfl
set_option maxRecDepth 65536 in
set_option maxHeartbeats 40000000 in
theorem rm_drain2 (l : Launch) (Z : State) (a0 : Array Value) (hw : ∀ d ∈ tables_1, d.before a0 Z = true) (ws : List Jvm.Cond) (jw : Addr) (sb : Addr) (va : Addr) (kv : ClassId) (u0 : Int32) (u1 : Int32) (ml : Int32) (G1 : Int32) (h0 : Heap) (n0 : Nat) (Z0 : n0 ≤ h0.size) (H0 : Exa Z h0 jw cJW) (H1 : Fld Z h0 jw cJW "text" "Ljava/lang/StringBuilder;" (.ref sb)) (H2 : Exa Z h0 sb cSB) (H3 : Fld Z h0 sb cAS "value" "[B" (.ref va)) (H4 : Fld Z h0 sb cAS "coder" "B" (.int 0)) (H5 : Fld Z h0 sb cAS "count" "I" (.int 2)) (H6 : Fld Z h0 sb cAS "maybeLatin1" "Z" (.int ml)) (H7 : Arv Z h0 va kv .byte (16 : Int32) [(.int u0), (.int u1)] (.int (0 : Int32))) (g_sb : n0 ≤ sb) (CS : Sta Z Z.heap "java/lang/String" "COMPACT_STRINGS" "Z" (.int G1)) (CSn : ¬ (G1 = (0 : Int32))) (O0 : Old Z n0 h0) :
    MetFree l mn3 (head1 (Jvm.Cond.code mn3 prog_33_method_10_code 2 (some (.object "java/lang/String")) :: ws) ({ frames := 6, cells := 2, slots := 6, locals := 91 } : Room)) (fun a U => a = #[(.ref jw)] ∧ Z.Warmed39 U.vm ∧ U.heap = h0) (fun _ _ _ _ _ => True) (fun _ U o U' => ∃ v L, o = .returned v ∧ Q_drain2 Z jw sb va kv u0 u1 ml G1 h0 n0 v U'.heap L ∧ FrameEnd U o U' L ({ frames := 6, cells := 2, slots := 6, locals := 91 } : Room).cells ({ frames := 6, cells := 2, slots := 6, locals := 91 } : Room).slots) := by
  refine MetFree.of_bodySF (plainFor_of_name pn_com_example_adjoinery_adjoinery_JsonWriter) hisR ?_
  intro p e s m args below meth c s₁ Bd hml0 hP hK
  obtain ⟨rfl, hZ, hh⟩ := hP
  have hx := Bd.exec
  have hby := Bd.bytes
  have hml : c.maxLocals = 2 := hml0
  have hown : s.vm.findClass "com/example/adjoinery/adjoinery/JsonWriter" = some m.cls := findClass_of_methodNamed Bd.named
  have hnm := (name_of_methodNamed Bd.named Bd.method).1
  have X0 : Stand p l e ({ frames := 6, cells := 2, slots := 6, locals := 91 } : Room) s m #[(.ref jw)] below meth c s₁ [] 0 0 := Stand.of_body Bd
  have e0 : s₁.heap = h0 := by rw [← hh, Bd.state]; rfl
  have N0 := Fr.nil n0
  refine go_st (fun t k => castTop (ef_drain2 m jw) k) ?_
  show Go _ _ _ _ (s₁.setTop (mkF m 0 #[rv jw, .unset] []))
  refine go_st (fun t k => XS.aloadN X0.here hx rfl (hb hby d3_0) rfl rfl k) ?_
  show Go _ _ _ _ (s₁.setTop (mkF m 1 #[rv jw, .unset] [(.ref jw)]))
  obtain ⟨T1, X1, e1, st1⟩ := getF X0 hx hZ hown (host := "") (Or.inl (w30 hw)) Via.refl e0 H1 (g := (mkF m 1 #[rv jw, .unset] [(.ref jw)])) rfl rfl (hb hby d3_1)
  refine go_st (fun t k => st1 t k) ?_
  show Go _ _ _ _ (T1.setTop (mkF m 4 #[rv jw, .unset] [(.ref sb)]))
  obtain ⟨cq2, kq2, q2a, q2b, q2c⟩ := isOf hZ e1 H2
  obtain ⟨_, _, ⟨T2, L2, kk2, nn2⟩, -, X2, ⟨Lc2, hQ2, lq2, yq2, zq2⟩, st2⟩ := X1.virtualBack hx (y := mn4) (z := mn4) hown (mvT hZ (w37 hw)) (mvT hZ (w38 hw)) (notFace_of_selects (args := #[]) (mvT hZ (w40 hw))) (mvT hZ (w40 hw)) (mvT hZ (w39 hw)) (by decide) (backOf (W := 0) (rm_tos2 l Z a0 hw [] sb va kv u0 u1 ml G1 h0 n0 (Nat.le_trans Z0 (Nat.le_refl _)) H2 H3 H4 H5 H6 H7 CS CSn O0) hZ (w41 hw) (w12 hw) (by decide) (by decide)) q2a q2c (g := (mkF m 4 #[rv jw, .unset] [(.ref sb)])) rfl (by rw [hml]; rfl) (Steps.refl _) (argsL := []) (rest := []) (lenOf pd_10 rfl) rfl (by show 2 * 0 + _ ≤ _; exact Nat.le_of_eq rfl) (hb hby d3_4) (fun _ _ => ⟨rfl, e1, (by decide : 0 + 2 ≤ _), (by decide : 0 + 6 ≤ _)⟩)
  dsimp only [Pt.U, Pt.locs, Pt.cells, Pt.slots] at X2 lq2 yq2 zq2 st2 hQ2
  subst lq2 yq2 zq2
  obtain ⟨h2, e2⟩ : ∃ z, T2.heap = z := ⟨_, rfl⟩
  rw [e2] at hQ2
  obtain ⟨sa_2, ta_2, kt_2, rfl, N2q, K2, gf2_0, lf2_0, gf2_1, lf2_1, p2_2, p2_3, p2_4, p2_5⟩ := hQ2
  have N2 := Fr.app N0 N2q
  refine go_tr st2 ?_
  refine go_st (fun t k => XS.astoreN X2.here hx rfl (hb hby d3_7) rfl rfl (l' := #[rv jw, rv sa_2]) rfl k) ?_
  refine go_st (fun t k => XS.aloadN X2.here hx rfl (hb hby d3_8) rfl rfl k) ?_
  show Go _ _ _ _ (T2.setTop (mkF m 9 #[rv jw, rv sa_2] [(.ref jw)]))
  have f3 : Fld Z h2 jw cJW "text" "Ljava/lang/StringBuilder;" (.ref sb) := (H1.keep K2 nin0)
  obtain ⟨T4, X4, e4, st4⟩ := getF X2 hx hZ hown (host := "") (Or.inl (w30 hw)) Via.refl e2 f3 (g := (mkF m 9 #[rv jw, rv sa_2] [(.ref jw)])) rfl rfl (hb hby d3_9)
  refine go_st (fun t k => st4 t k) ?_
  refine go_st (fun t k => XS.iconst X4.here hx rfl (hb hby d3_12) k) ?_
  show Go _ _ _ _ (T4.setTop (mkF m 13 #[rv jw, rv sa_2] [(.int 0), (.ref sb)]))
  have f5 : Exa Z h2 sb cSB := (H2.keep K2)
  have f6 : Fld Z h2 sb cAS "value" "[B" (.ref va) := (H3.keep K2 nin0)
  have f7 : Fld Z h2 sb cAS "coder" "B" (.int 0) := (H4.keep K2 nin0)
  have f8 : Fld Z h2 sb cAS "count" "I" (.int 2) := (H5.keep K2 nin0)
  have f9 : Fld Z h2 sb cAS "maybeLatin1" "Z" (.int ml) := (H6.keep K2 nin0)
  have f10 : Arv Z h2 va kv .byte (16 : Int32) [(.int u0), (.int u1)] (.int (0 : Int32)) := (H7.keep K2 nin0)
  have oe11 : Old Z n0 h2 := (Old.keep O0 K2 all0)
  obtain ⟨cq12, kq12, q12a, q12b, q12c⟩ := isOf hZ e4 f5
  obtain ⟨_, _, ⟨T12, L12, kk12, nn12⟩, -, X12, ⟨Lc12, hQ12, lq12, yq12, zq12⟩, st12⟩ := X4.virtualBack hx (y := mn15) (z := mn15) hown (mvT hZ (w95 hw)) (mvT hZ (w96 hw)) (nf_same (y := mn15) (y' := mn4) (a0 := #[]) rfl (mvT hZ (w39 hw)) (notFace_of_selects (args := #[]) (mvT hZ (w40 hw)))) (mvT hZ (w98 hw)) (mvT hZ (w97 hw)) (by decide) (backOf (W := 0) (rm_sbset2 l Z a0 hw [] sb va kv u0 u1 ml G1 h2 n0 (Nat.le_trans Z0 K2.1) f5 f6 f7 f8 f9 f10 g_sb CS CSn oe11) hZ (w99 hw) (w12 hw) (by decide) (by decide)) q12a q12c (g := (mkF m 13 #[rv jw, rv sa_2] [(.int 0), (.ref sb)])) rfl (by rw [hml]; rfl) (Steps.refl _) (argsL := [(.int 0)]) (rest := []) (lenOf pd_0 rfl) rfl (by show 2 * 0 + _ ≤ _; exact Nat.le_of_eq rfl) (hb hby d3_13) (fun _ _ => ⟨rfl, e4, (by decide : 2 + 0 ≤ _), (by decide : 6 + 0 ≤ _)⟩)
  dsimp only [Pt.U, Pt.locs, Pt.cells, Pt.slots] at X12 lq12 yq12 zq12 st12 hQ12
  subst lq12 yq12 zq12
  obtain ⟨h12, e12⟩ : ∃ z, T12.heap = z := ⟨_, rfl⟩
  rw [e12] at hQ12
  obtain ⟨rfl, N12q, K12, p12_0, p12_1, p12_2, p12_3, p12_4⟩ := hQ12
  have N12 := Fr.app N2 N12q
  refine go_tr st12 ?_
  refine go_st (fun t k => XS.aloadN X12.here hx rfl (hb hby d3_16) rfl rfl k) ?_
  show Go _ _ _ _ (T12.setTop (mkF m 17 #[rv jw, rv sa_2] [(.ref sa_2)]))
  have f13 : Exa Z h12 sa_2 cST := (p2_2.keep K12)
  have nq14 : sb ≠ sa_2 := Nat.ne_of_lt (Nat.lt_of_lt_of_le (Nat.lt_of_lt_of_le H2.lt (Nat.le_refl _)) lf2_0)
  have f15 : Fld Z h12 sa_2 cST "value" "[B" (.ref ta_2) := (p2_3.keep K12 (ninS (Ne.symm nq14) nin0))
  have f16 : Fld Z h12 sa_2 cST "coder" "B" (.int 0) := (p2_4.keep K12 (ninS (Ne.symm nq14) nin0))
  have nq17 : sb ≠ ta_2 := Nat.ne_of_lt (Nat.lt_of_lt_of_le (Nat.lt_of_lt_of_le H2.lt (Nat.le_refl _)) lf2_1)
  have f18 : Arv Z h12 ta_2 kt_2 .byte (2 : Int32) [(.int u0), (.int u1)] (.int (0 : Int32)) := (p2_5.keep K12 (ninS (Ne.symm nq17) nin0))
  have ke19 : Keep h0 h2 [sb] := (Keep.trans (Keep.refl h0 [sb]) K2 all0)
  have ke20 : Keep h0 h12 [sb] := (Keep.trans ke19 K12 (allS (Or.inl (List.mem_of_getElem? (i := 0) rfl)) all0))
  obtain ⟨fs, hr, hrun, hended, hW, hsame⟩ := X12.leave (v := some (.ref sa_2)) (fun h => by rw [Bd.returns] at h; cases h)
  refine ⟨_, _, ?_, hrun, hended, _, _, rfl, ?_, ⟨_, rfl⟩, hW, hsame.mono (by decide) (by decide)⟩
  · exact retOut X12 hx Bd.returns rfl (Or.inr (Or.inr (Or.inr (Or.inr ⟨rfl, rfl, rfl⟩)))) (hb hby d3_17) hr
  · show Q_drain2 _ _ _ _ _ _ _ _ _ _ _ _ T12.heap _
    rw [e12]
    exact ⟨sa_2, ta_2, kt_2, rfl, N12, ke20, gf2_0, lf2_0, gf2_1, lf2_1, f13, f15, f16, f18, p12_0, p12_1, p12_2, p12_3, p12_4⟩
def Q_leq2 (Z : State) (xt : Addr) (kx : ClassId) (y0 : Int32) (y1 : Int32) (zt : Addr) (kz : ClassId) (z0_ : Int32) (z1_ : Int32) (h0 : Heap) (n0 : Nat) (vR : Option Value) (h : Heap) (L : List Loc) : Prop := vR = some (.int 1) ∧ Fr n0 L ∧ h = h0
theorem ef_leq2 (m : MethodId) (x0 : Addr) (x1 : Addr) : entryFrame m #[(.ref x0), (.ref x1)] 3 = mkF m 0 #[.val (.ref x0), .val (.ref x1), .unset] [] := by first | (simp [entryFrame, mkF, argsToLocals, Value.category]; done) | rfl
set_option maxRecDepth 65536 in
set_option maxHeartbeats 40000000 in
theorem rm_leq2 (l : Launch) (Z : State) (a0 : Array Value) (hw : ∀ d ∈ tables_1, d.before a0 Z = true) (ws : List Jvm.Cond) (xt : Addr) (kx : ClassId) (y0 : Int32) (y1 : Int32) (zt : Addr) (kz : ClassId) (z0_ : Int32) (z1_ : Int32) (h0 : Heap) (n0 : Nat) (Z0 : n0 ≤ h0.size) (H0 : Arv Z h0 xt kx .byte (2 : Int32) [(.int y0), (.int y1)] (.int (0 : Int32))) (H1 : Arv Z h0 zt kz .byte (2 : Int32) [(.int z0_), (.int z1_)] (.int (0 : Int32))) (heq0 : y0 = z0_) (heq1 : y1 = z1_) :
    MetFree l mn31 (head1 (Jvm.Cond.code mn31 jdk_43_method_13_code 3 (some .boolean) :: ws) ({ frames := 0, cells := 0, slots := 0, locals := 0 } : Room)) (fun a U => a = #[(.ref xt), (.ref zt)] ∧ Z.Warmed39 U.vm ∧ U.heap = h0) (fun _ _ _ _ _ => True) (fun _ U o U' => ∃ v L, o = .returned v ∧ Q_leq2 Z xt kx y0 y1 zt kz z0_ z1_ h0 n0 v U'.heap L ∧ FrameEnd U o U' L ({ frames := 0, cells := 0, slots := 0, locals := 0 } : Room).cells ({ frames := 0, cells := 0, slots := 0, locals := 0 } : Room).slots) := by
  refine MetFree.of_bodySF (plainFor_of_name pn_java_lang_StringLatin1) hisR ?_
  intro p e s m args below meth c s₁ Bd hml0 hP hK
  obtain ⟨rfl, hZ, hh⟩ := hP
  have hx := Bd.exec
  have hby := Bd.bytes
  have hml : c.maxLocals = 3 := hml0
  have hown : s.vm.findClass "java/lang/StringLatin1" = some m.cls := findClass_of_methodNamed Bd.named
  have hnm := (name_of_methodNamed Bd.named Bd.method).1
  have X0 : Stand p l e ({ frames := 0, cells := 0, slots := 0, locals := 0 } : Room) s m #[(.ref xt), (.ref zt)] below meth c s₁ [] 0 0 := Stand.of_body Bd
  have e0 : s₁.heap = h0 := by rw [← hh, Bd.state]; rfl
  have N0 := Fr.nil n0
  refine go_st (fun t k => castTop (ef_leq2 m xt zt) k) ?_
  show Go _ _ _ _ (s₁.setTop (mkF m 0 #[rv xt, rv zt, .unset] []))
  refine go_st (fun t k => XS.aloadN X0.here hx rfl (hb hby d31_0) rfl rfl k) ?_
  show Go _ _ _ _ (s₁.setTop (mkF m 1 #[rv xt, rv zt, .unset] [(.ref xt)]))
  obtain ⟨zc1, zA1, zq1, zS1, zN1, zH1, zG1⟩ := id H0
  refine go_st (fun t k => X0.arraylength hx (by rw [e0]; exact zA1.1) (State.isArrayOf_alike hZ.alike zA1.2.1) (g := (mkF m 1 #[rv xt, rv zt, .unset] [(.ref xt)])) rfl rfl (hb hby d31_1) t k) ?_
  rw [len_of zS1 zN1]
  refine go_st (fun t k => XS.aloadN X0.here hx rfl (hb hby d31_2) rfl rfl k) ?_
  show Go _ _ _ _ (s₁.setTop (mkF m 3 #[rv xt, rv zt, .unset] [(.ref zt), (.int 2)]))
  obtain ⟨zc2, zA2, zq2, zS2, zN2, zH2, zG2⟩ := id H1
  refine go_st (fun t k => X0.arraylength hx (by rw [e0]; exact zA2.1) (State.isArrayOf_alike hZ.alike zA2.2.1) (g := (mkF m 3 #[rv xt, rv zt, .unset] [(.ref zt), (.int 2)])) rfl rfl (hb hby d31_3) t k) ?_
  rw [len_of zS2 zN2]
  show Go _ _ _ _ (s₁.setTop (mkF m 4 #[rv xt, rv zt, .unset] [(.int 2), (.int 2)]))
  refine go_st (fun t k => XS.icmpNo X0.here hx rfl (hb hby d31_4) rfl (teq ((by decide) : (2 : Int32) = (2 : Int32))).2 k) ?_
  show Go _ _ _ _ (s₁.setTop (mkF m 7 #[rv xt, rv zt, .unset] []))
  refine go_st (fun t k => XS.iconst X0.here hx rfl (hb hby d31_7) k) ?_
  refine go_st (fun t k => XS.istoreN X0.here hx rfl (hb hby d31_8) rfl (l' := #[rv xt, rv zt, iv 0]) rfl k) ?_
  refine go_st (fun t k => XS.iloadN X0.here hx rfl (hb hby d31_9) rfl k) ?_
  refine go_st (fun t k => XS.aloadN X0.here hx rfl (hb hby d31_10) rfl rfl k) ?_
  show Go _ _ _ _ (s₁.setTop (mkF m 11 #[rv xt, rv zt, iv 0] [(.ref xt), (.int 0)]))
  obtain ⟨zc3, zA3, zq3, zS3, zN3, zH3, zG3⟩ := id H0
  refine go_st (fun t k => X0.arraylength hx (by rw [e0]; exact zA3.1) (State.isArrayOf_alike hZ.alike zA3.2.1) (g := (mkF m 11 #[rv xt, rv zt, iv 0] [(.ref xt), (.int 0)])) rfl rfl (hb hby d31_11) t k) ?_
  rw [len_of zS3 zN3]
  show Go _ _ _ _ (s₁.setTop (mkF m 12 #[rv xt, rv zt, iv 0] [(.int 2), (.int 0)]))
  refine go_st (fun t k => XS.icmpNo X0.here hx rfl (hb hby d31_12) rfl (tlt ((by decide) : (0 : Int32) < (2 : Int32))).2.1 k) ?_
  show Go _ _ _ _ (s₁.setTop (mkF m 15 #[rv xt, rv zt, iv 0] []))
  refine go_st (fun t k => XS.aloadN X0.here hx rfl (hb hby d31_15) rfl rfl k) ?_
  refine go_st (fun t k => XS.iloadN X0.here hx rfl (hb hby d31_16) rfl k) ?_
  show Go _ _ _ _ (s₁.setTop (mkF m 17 #[rv xt, rv zt, iv 0] [(.int 0), (.ref xt)]))
  obtain ⟨zc4, zA4, zq4, zS4, zN4, zH4, zG4⟩ := id H0
  have hin4 : ¬ ((0 : Int32) < 0 ∨ zc4.slots.size ≤ ((0 : Int32)).toNatClampNeg) := inb_of zS4 ⟨by decide, by decide⟩
  have hat4 : zc4.slots[((0 : Int32)).toNatClampNeg]? = some (.int y0) := Has.at zH4 hin4 rfl
  refine go_st (fun t k => X0.baloadBytes hx (j := (0 : Int32)) (v := (.int y0)) (by rw [e0]; exact zA4.1) (State.isArrayOf_alike hZ.alike zA4.2.1) zA4.2.2 hin4 hat4 (g := (mkF m 17 #[rv xt, rv zt, iv 0] [(.int 0), (.ref xt)])) rfl rfl (hb hby d31_17) t k) ?_
  refine go_st (fun t k => XS.aloadN X0.here hx rfl (hb hby d31_18) rfl rfl k) ?_
  refine go_st (fun t k => XS.iloadN X0.here hx rfl (hb hby d31_19) rfl k) ?_
  show Go _ _ _ _ (s₁.setTop (mkF m 20 #[rv xt, rv zt, iv 0] [(.int 0), (.ref zt), (.int y0)]))
  obtain ⟨zc5, zA5, zq5, zS5, zN5, zH5, zG5⟩ := id H1
  have hin5 : ¬ ((0 : Int32) < 0 ∨ zc5.slots.size ≤ ((0 : Int32)).toNatClampNeg) := inb_of zS5 ⟨by decide, by decide⟩
  have hat5 : zc5.slots[((0 : Int32)).toNatClampNeg]? = some (.int z0_) := Has.at zH5 hin5 rfl
  refine go_st (fun t k => X0.baloadBytes hx (j := (0 : Int32)) (v := (.int z0_)) (by rw [e0]; exact zA5.1) (State.isArrayOf_alike hZ.alike zA5.2.1) zA5.2.2 hin5 hat5 (g := (mkF m 20 #[rv xt, rv zt, iv 0] [(.int 0), (.ref zt), (.int y0)])) rfl rfl (hb hby d31_20) t k) ?_
  show Go _ _ _ _ (s₁.setTop (mkF m 21 #[rv xt, rv zt, iv 0] [(.int z0_), (.int y0)]))
  refine go_st (fun t k => XS.icmpYes X0.here hx rfl (pc0 := 21) (pc' := 26) rfl (hb hby d31_21) rfl (teq (heq0 : y0 = z0_)).1 (by decide) (by decide) k) ?_
  show Go _ _ _ _ (s₁.setTop (mkF m 26 #[rv xt, rv zt, iv 0] []))
  refine go_st (fun t k => XS.iinc X0.here hx rfl (hb hby d31_26) rfl (l' := #[rv xt, rv zt, iv ((0 : Int32) + (1 : Int32))]) rfl k) ?_
  rw [show ((0 : Int32) + (1 : Int32)) = (1 : Int32) from by decide]
  show Go _ _ _ _ (s₁.setTop (mkF m 29 #[rv xt, rv zt, iv 1] []))
  refine go_st (fun t k => XS.goto X0.here hx rfl (pc0 := 29) (pc' := 9) rfl (hb hby d31_29) (by decide) (by decide) k) ?_
  show Go _ _ _ _ (s₁.setTop (mkF m 9 #[rv xt, rv zt, iv 1] []))
  refine go_st (fun t k => XS.iloadN X0.here hx rfl (hb hby d31_9) rfl k) ?_
  refine go_st (fun t k => XS.aloadN X0.here hx rfl (hb hby d31_10) rfl rfl k) ?_
  show Go _ _ _ _ (s₁.setTop (mkF m 11 #[rv xt, rv zt, iv 1] [(.ref xt), (.int 1)]))
  obtain ⟨zc6, zA6, zq6, zS6, zN6, zH6, zG6⟩ := id H0
  refine go_st (fun t k => X0.arraylength hx (by rw [e0]; exact zA6.1) (State.isArrayOf_alike hZ.alike zA6.2.1) (g := (mkF m 11 #[rv xt, rv zt, iv 1] [(.ref xt), (.int 1)])) rfl rfl (hb hby d31_11) t k) ?_
  rw [len_of zS6 zN6]
  show Go _ _ _ _ (s₁.setTop (mkF m 12 #[rv xt, rv zt, iv 1] [(.int 2), (.int 1)]))
  refine go_st (fun t k => XS.icmpNo X0.here hx rfl (hb hby d31_12) rfl (tlt ((by decide) : (1 : Int32) < (2 : Int32))).2.1 k) ?_
  show Go _ _ _ _ (s₁.setTop (mkF m 15 #[rv xt, rv zt, iv 1] []))
  refine go_st (fun t k => XS.aloadN X0.here hx rfl (hb hby d31_15) rfl rfl k) ?_
  refine go_st (fun t k => XS.iloadN X0.here hx rfl (hb hby d31_16) rfl k) ?_
  show Go _ _ _ _ (s₁.setTop (mkF m 17 #[rv xt, rv zt, iv 1] [(.int 1), (.ref xt)]))
  obtain ⟨zc7, zA7, zq7, zS7, zN7, zH7, zG7⟩ := id H0
  have hin7 : ¬ ((1 : Int32) < 0 ∨ zc7.slots.size ≤ ((1 : Int32)).toNatClampNeg) := inb_of zS7 ⟨by decide, by decide⟩
  have hat7 : zc7.slots[((1 : Int32)).toNatClampNeg]? = some (.int y1) := Has.at zH7 hin7 rfl
  refine go_st (fun t k => X0.baloadBytes hx (j := (1 : Int32)) (v := (.int y1)) (by rw [e0]; exact zA7.1) (State.isArrayOf_alike hZ.alike zA7.2.1) zA7.2.2 hin7 hat7 (g := (mkF m 17 #[rv xt, rv zt, iv 1] [(.int 1), (.ref xt)])) rfl rfl (hb hby d31_17) t k) ?_
  refine go_st (fun t k => XS.aloadN X0.here hx rfl (hb hby d31_18) rfl rfl k) ?_
  refine go_st (fun t k => XS.iloadN X0.here hx rfl (hb hby d31_19) rfl k) ?_
  show Go _ _ _ _ (s₁.setTop (mkF m 20 #[rv xt, rv zt, iv 1] [(.int 1), (.ref zt), (.int y1)]))
  obtain ⟨zc8, zA8, zq8, zS8, zN8, zH8, zG8⟩ := id H1
  have hin8 : ¬ ((1 : Int32) < 0 ∨ zc8.slots.size ≤ ((1 : Int32)).toNatClampNeg) := inb_of zS8 ⟨by decide, by decide⟩
  have hat8 : zc8.slots[((1 : Int32)).toNatClampNeg]? = some (.int z1_) := Has.at zH8 hin8 rfl
  refine go_st (fun t k => X0.baloadBytes hx (j := (1 : Int32)) (v := (.int z1_)) (by rw [e0]; exact zA8.1) (State.isArrayOf_alike hZ.alike zA8.2.1) zA8.2.2 hin8 hat8 (g := (mkF m 20 #[rv xt, rv zt, iv 1] [(.int 1), (.ref zt), (.int y1)])) rfl rfl (hb hby d31_20) t k) ?_
  show Go _ _ _ _ (s₁.setTop (mkF m 21 #[rv xt, rv zt, iv 1] [(.int z1_), (.int y1)]))
  refine go_st (fun t k => XS.icmpYes X0.here hx rfl (pc0 := 21) (pc' := 26) rfl (hb hby d31_21) rfl (teq (heq1 : y1 = z1_)).1 (by decide) (by decide) k) ?_
  show Go _ _ _ _ (s₁.setTop (mkF m 26 #[rv xt, rv zt, iv 1] []))
  refine go_st (fun t k => XS.iinc X0.here hx rfl (hb hby d31_26) rfl (l' := #[rv xt, rv zt, iv ((1 : Int32) + (1 : Int32))]) rfl k) ?_
  rw [show ((1 : Int32) + (1 : Int32)) = (2 : Int32) from by decide]
  show Go _ _ _ _ (s₁.setTop (mkF m 29 #[rv xt, rv zt, iv 2] []))
  refine go_st (fun t k => XS.goto X0.here hx rfl (pc0 := 29) (pc' := 9) rfl (hb hby d31_29) (by decide) (by decide) k) ?_
  show Go _ _ _ _ (s₁.setTop (mkF m 9 #[rv xt, rv zt, iv 2] []))
  refine go_st (fun t k => XS.iloadN X0.here hx rfl (hb hby d31_9) rfl k) ?_
  refine go_st (fun t k => XS.aloadN X0.here hx rfl (hb hby d31_10) rfl rfl k) ?_
  show Go _ _ _ _ (s₁.setTop (mkF m 11 #[rv xt, rv zt, iv 2] [(.ref xt), (.int 2)]))
  obtain ⟨zc9, zA9, zq9, zS9, zN9, zH9, zG9⟩ := id H0
  refine go_st (fun t k => X0.arraylength hx (by rw [e0]; exact zA9.1) (State.isArrayOf_alike hZ.alike zA9.2.1) (g := (mkF m 11 #[rv xt, rv zt, iv 2] [(.ref xt), (.int 2)])) rfl rfl (hb hby d31_11) t k) ?_
  rw [len_of zS9 zN9]
  show Go _ _ _ _ (s₁.setTop (mkF m 12 #[rv xt, rv zt, iv 2] [(.int 2), (.int 2)]))
  refine go_st (fun t k => XS.icmpYes X0.here hx rfl (pc0 := 12) (pc' := 32) rfl (hb hby d31_12) rfl (flt ((by decide) : ¬ ((2 : Int32) < (2 : Int32)))).2.1 (by decide) (by decide) k) ?_
  show Go _ _ _ _ (s₁.setTop (mkF m 32 #[rv xt, rv zt, iv 2] []))
  refine go_st (fun t k => XS.iconst X0.here hx rfl (hb hby d31_32) k) ?_
  show Go _ _ _ _ (s₁.setTop (mkF m 33 #[rv xt, rv zt, iv 2] [(.int 1)]))
  obtain ⟨fs, hr, hrun, hended, hW, hsame⟩ := X0.leave (v := some (.int 1)) (fun h => by rw [Bd.returns] at h; cases h)
  refine ⟨_, _, ?_, hrun, hended, _, _, rfl, ?_, ⟨_, rfl⟩, hW, hsame.mono (by decide) (by decide)⟩
  · exact retN X0 hx (t := .boolean) Bd.returns (by simp) (hb hby d31_33) hr
  · show Q_leq2 _ _ _ _ _ _ _ _ _ _ _ _ s₁.heap _
    rw [e0]
    exact ⟨rfl, N0, rfl⟩
def Q_seq2 (Z : State) (xs : Addr) (xt : Addr) (kx : ClassId) (y0 : Int32) (y1 : Int32) (zs : Addr) (zt : Addr) (kz : ClassId) (z0_ : Int32) (z1_ : Int32) (G1 : Int32) (h0 : Heap) (n0 : Nat) (vR : Option Value) (h : Heap) (L : List Loc) : Prop := vR = some (.int 1) ∧ Fr n0 L ∧ h = h0
theorem ef_seq2 (m : MethodId) (x0 : Addr) (x1 : Addr) : entryFrame m #[(.ref x0), (.ref x1)] 3 = mkF m 0 #[.val (.ref x0), .val (.ref x1), .unset] [] := by first | (simp [entryFrame, mkF, argsToLocals, Value.category]; done) | rfl
set_option maxRecDepth 65536 in
set_option maxHeartbeats 40000000 in
theorem rm_seq2 (l : Launch) (Z : State) (a0 : Array Value) (hw : ∀ d ∈ tables_1, d.before a0 Z = true) (ws : List Jvm.Cond) (xs : Addr) (xt : Addr) (kx : ClassId) (y0 : Int32) (y1 : Int32) (zs : Addr) (zt : Addr) (kz : ClassId) (z0_ : Int32) (z1_ : Int32) (G1 : Int32) (h0 : Heap) (n0 : Nat) (Z0 : n0 ≤ h0.size) (H0 : Exa Z h0 xs cST) (H1 : Fld Z h0 xs cST "value" "[B" (.ref xt)) (H2 : Fld Z h0 xs cST "coder" "B" (.int 0)) (H3 : Arv Z h0 xt kx .byte (2 : Int32) [(.int y0), (.int y1)] (.int (0 : Int32))) (H4 : Exa Z h0 zs cST) (H5 : Fld Z h0 zs cST "value" "[B" (.ref zt)) (H6 : Fld Z h0 zs cST "coder" "B" (.int 0)) (H7 : Arv Z h0 zt kz .byte (2 : Int32) [(.int z0_), (.int z1_)] (.int (0 : Int32))) (ne_xs_zs : xs ≠ zs) (heq0 : y0 = z0_) (heq1 : y1 = z1_) (CS : Sta Z Z.heap "java/lang/String" "COMPACT_STRINGS" "Z" (.int G1)) (CSn : ¬ (G1 = (0 : Int32))) (O0 : Old Z n0 h0) :
    MetFree l mn30 (head1 (Jvm.Cond.code mn30 jdk_42_method_66_code 3 (some .boolean) :: ws) ({ frames := 1, cells := 0, slots := 0, locals := 14 } : Room)) (fun a U => a = #[(.ref xs), (.ref zs)] ∧ Z.Warmed39 U.vm ∧ U.heap = h0) (fun _ _ _ _ _ => True) (fun _ U o U' => ∃ v L, o = .returned v ∧ Q_seq2 Z xs xt kx y0 y1 zs zt kz z0_ z1_ G1 h0 n0 v U'.heap L ∧ FrameEnd U o U' L ({ frames := 1, cells := 0, slots := 0, locals := 14 } : Room).cells ({ frames := 1, cells := 0, slots := 0, locals := 14 } : Room).slots) := by
  refine MetFree.of_bodySF (plainFor_of_name pn_java_lang_String) hisR ?_
  intro p e s m args below meth c s₁ Bd hml0 hP hK
  obtain ⟨rfl, hZ, hh⟩ := hP
  have hx := Bd.exec
  have hby := Bd.bytes
  have hml : c.maxLocals = 3 := hml0
  have hown : s.vm.findClass "java/lang/String" = some m.cls := findClass_of_methodNamed Bd.named
  have hnm := (name_of_methodNamed Bd.named Bd.method).1
  have X0 : Stand p l e ({ frames := 1, cells := 0, slots := 0, locals := 14 } : Room) s m #[(.ref xs), (.ref zs)] below meth c s₁ [] 0 0 := Stand.of_body Bd
  have e0 : s₁.heap = h0 := by rw [← hh, Bd.state]; rfl
  have N0 := Fr.nil n0
  refine go_st (fun t k => castTop (ef_seq2 m xs zs) k) ?_
  show Go _ _ _ _ (s₁.setTop (mkF m 0 #[rv xs, rv zs, .unset] []))
  refine go_st (fun t k => XS.aloadN X0.here hx rfl (hb hby d30_0) rfl rfl k) ?_
  refine go_st (fun t k => XS.aloadN X0.here hx rfl (hb hby d30_1) rfl rfl k) ?_
  show Go _ _ _ _ (s₁.setTop (mkF m 2 #[rv xs, rv zs, .unset] [(.ref zs), (.ref xs)]))
  refine go_st (fun t k => Jvm.RoadKit.acmp (g := (mkF m 2 #[rv xs, rv zs, .unset] [(.ref zs), (.ref xs)])) X0 hx rfl rfl rfl (pc0 := 2) (pc' := 7) (same := false) rfl (hb hby d30_2) rfl (decide_eq_false (fun q => ne_xs_zs (Value.ref.inj q))) (by decide) (by decide) k) ?_
  show Go _ _ _ _ (s₁.setTop (mkF m 7 #[rv xs, rv zs, .unset] []))
  refine go_st (fun t k => XS.aloadN X0.here hx rfl (hb hby d30_7) rfl rfl k) ?_
  show Go _ _ _ _ (s₁.setTop (mkF m 8 #[rv xs, rv zs, .unset] [(.ref zs)]))
  obtain ⟨T1, X1, e1, st1⟩ := instY X0 hx hZ hown (w154 hw) e0 (Ins.self H4) (g := (mkF m 8 #[rv xs, rv zs, .unset] [(.ref zs)])) rfl rfl (hb hby d30_8)
  refine go_st (fun t k => st1 t k) ?_
  show Go _ _ _ _ (T1.setTop (mkF m 11 #[rv xs, rv zs, .unset] [(.int 1)]))
  refine go_st (fun t k => XS.ifNo X1.here hx rfl (hb hby d30_11) rfl ((if0 _ _).trans (feq ((by decide) : ¬ ((1 : Int32) = (0 : Int32)))).1) k) ?_
  show Go _ _ _ _ (T1.setTop (mkF m 14 #[rv xs, rv zs, .unset] []))
  refine go_st (fun t k => XS.aloadN X1.here hx rfl (hb hby d30_14) rfl rfl k) ?_
  show Go _ _ _ _ (T1.setTop (mkF m 15 #[rv xs, rv zs, .unset] [(.ref zs)]))
  obtain ⟨T2, X2, e2, st2⟩ := castY X1 hx hZ hown (w154 hw) e1 (Ins.self H4) (g := (mkF m 15 #[rv xs, rv zs, .unset] [(.ref zs)])) rfl rfl (hb hby d30_15)
  refine go_st (fun t k => st2 t k) ?_
  refine go_st (fun t k => XS.astoreN X2.here hx rfl (hb hby d30_18) rfl rfl (l' := #[rv xs, rv zs, rv zs]) rfl k) ?_
  show Go _ _ _ _ (T2.setTop (mkF m 19 #[rv xs, rv zs, rv zs] []))
  obtain ⟨T3, X3, e3, st3⟩ := getS2 X2 hx hZ hown (host := "") (Or.inl (w152 hw)) Via.refl e2 (Sta.ext O0.2 CS) (g := (mkF m 19 #[rv xs, rv zs, rv zs] [])) rfl (hb hby d30_19)
  refine go_st (fun t k => st3 t k) ?_
  show Go _ _ _ _ (T3.setTop (mkF m 22 #[rv xs, rv zs, rv zs] [(.int G1)]))
  refine go_st (fun t k => XS.ifNo X3.here hx rfl (hb hby d30_22) rfl ((if0 _ _).trans (feq (CSn : ¬ (G1 = (0 : Int32)))).1) k) ?_
  show Go _ _ _ _ (T3.setTop (mkF m 25 #[rv xs, rv zs, rv zs] []))
  refine go_st (fun t k => XS.aloadN X3.here hx rfl (hb hby d30_25) rfl rfl k) ?_
  show Go _ _ _ _ (T3.setTop (mkF m 26 #[rv xs, rv zs, rv zs] [(.ref xs)]))
  obtain ⟨T4, X4, e4, st4⟩ := getF X3 hx hZ hown (host := "") (Or.inl (w73 hw)) Via.refl e3 H2 (g := (mkF m 26 #[rv xs, rv zs, rv zs] [(.ref xs)])) rfl rfl (hb hby d30_26)
  refine go_st (fun t k => st4 t k) ?_
  refine go_st (fun t k => XS.aloadN X4.here hx rfl (hb hby d30_29) rfl rfl k) ?_
  show Go _ _ _ _ (T4.setTop (mkF m 30 #[rv xs, rv zs, rv zs] [(.ref zs), (.int 0)]))
  obtain ⟨T5, X5, e5, st5⟩ := getF X4 hx hZ hown (host := "") (Or.inl (w73 hw)) Via.refl e4 H6 (g := (mkF m 30 #[rv xs, rv zs, rv zs] [(.ref zs), (.int 0)])) rfl rfl (hb hby d30_30)
  refine go_st (fun t k => st5 t k) ?_
  show Go _ _ _ _ (T5.setTop (mkF m 33 #[rv xs, rv zs, rv zs] [(.int 0), (.int 0)]))
  refine go_st (fun t k => XS.icmpNo X5.here hx rfl (hb hby d30_33) rfl (teq ((by decide) : (0 : Int32) = (0 : Int32))).2 k) ?_
  show Go _ _ _ _ (T5.setTop (mkF m 36 #[rv xs, rv zs, rv zs] []))
  refine go_st (fun t k => XS.aloadN X5.here hx rfl (hb hby d30_36) rfl rfl k) ?_
  show Go _ _ _ _ (T5.setTop (mkF m 37 #[rv xs, rv zs, rv zs] [(.ref xs)]))
  obtain ⟨T6, X6, e6, st6⟩ := getF X5 hx hZ hown (host := "") (Or.inl (w93 hw)) Via.refl e5 H1 (g := (mkF m 37 #[rv xs, rv zs, rv zs] [(.ref xs)])) rfl rfl (hb hby d30_37)
  refine go_st (fun t k => st6 t k) ?_
  refine go_st (fun t k => XS.aloadN X6.here hx rfl (hb hby d30_40) rfl rfl k) ?_
  show Go _ _ _ _ (T6.setTop (mkF m 41 #[rv xs, rv zs, rv zs] [(.ref zs), (.ref xt)]))
  obtain ⟨T7, X7, e7, st7⟩ := getF X6 hx hZ hown (host := "") (Or.inl (w93 hw)) Via.refl e6 H5 (g := (mkF m 41 #[rv xs, rv zs, rv zs] [(.ref zs), (.ref xt)])) rfl rfl (hb hby d30_41)
  refine go_st (fun t k => st7 t k) ?_
  show Go _ _ _ _ (T7.setTop (mkF m 44 #[rv xs, rv zs, rv zs] [(.ref zt), (.ref xt)]))
  obtain ⟨_, _, ⟨T8, L8, kk8, nn8⟩, -, X8, ⟨Lc8, hQ8, lq8, yq8, zq8⟩, st8⟩ := Jvm.LawKit.callS X7 hx (y := mn31) hown (mvT hZ (w171 hw)) (mvT hZ (w172 hw)) (mvT hZ (w136 hw)) (mvT hZ (w173 hw)) (by decide) (backOf (W := 0) (rm_leq2 l Z a0 hw [] xt kx y0 y1 zt kz z0_ z1_ h0 n0 (Nat.le_trans Z0 (Nat.le_refl _)) H3 H7 heq0 heq1) hZ (w173 hw) (w136 hw) (by decide) (by decide)) (g := (mkF m 44 #[rv xs, rv zs, rv zs] [(.ref zt), (.ref xt)])) rfl (by rw [hml]; rfl) (argsL := [(.ref xt), (.ref zt)]) (rest := []) (lenOf pd_19 rfl) rfl (by show 2 * 0 + _ ≤ _; exact Nat.le_of_eq rfl) (hb hby d30_44) (fun _ _ => ⟨rfl, e7, (by decide : 0 + 0 ≤ _), (by decide : 0 + 0 ≤ _)⟩)
  dsimp only [Pt.U, Pt.locs, Pt.cells, Pt.slots] at X8 lq8 yq8 zq8 st8 hQ8
  subst lq8 yq8 zq8
  obtain ⟨h8, e8⟩ : ∃ z, T8.heap = z := ⟨_, rfl⟩
  rw [e8] at hQ8
  obtain ⟨rfl, N8q, he8⟩ := hQ8
  have N8 := Fr.app N0 N8q
  rw [he8] at e8
  refine go_st st8 ?_
  show Go _ _ _ _ (T8.setTop (mkF m 47 #[rv xs, rv zs, rv zs] [(.int 1)]))
  refine go_st (fun t k => XS.ifNo X8.here hx rfl (hb hby d30_47) rfl ((if0 _ _).trans (feq ((by decide) : ¬ ((1 : Int32) = (0 : Int32)))).1) k) ?_
  show Go _ _ _ _ (T8.setTop (mkF m 50 #[rv xs, rv zs, rv zs] []))
  refine go_st (fun t k => XS.iconst X8.here hx rfl (hb hby d30_50) k) ?_
  refine go_st (fun t k => XS.goto X8.here hx rfl (pc0 := 51) (pc' := 55) rfl (hb hby d30_51) (by decide) (by decide) k) ?_
  show Go _ _ _ _ (T8.setTop (mkF m 55 #[rv xs, rv zs, rv zs] [(.int 1)]))
  obtain ⟨fs, hr, hrun, hended, hW, hsame⟩ := X8.leave (v := some (.int 1)) (fun h => by rw [Bd.returns] at h; cases h)
  refine ⟨_, _, ?_, hrun, hended, _, _, rfl, ?_, ⟨_, rfl⟩, hW, hsame.mono (by decide) (by decide)⟩
  · exact retN X8 hx (t := .boolean) Bd.returns (by simp) (hb hby d30_55) hr
  · show Q_seq2 _ _ _ _ _ _ _ _ _ _ _ _ _ _ _ T8.heap _
    rw [e8]
    exact ⟨rfl, N8, rfl⟩
def Q_sep1 (Z : State) (jw : Addr) (sb : Addr) (va : Addr) (kv : ClassId) (u0 : Int32) (u1 : Int32) (ml : Int32) (G1 : Int32) (h0 : Heap) (n0 : Nat) (vR : Option Value) (h : Heap) (L : List Loc) : Prop := vR = none ∧ Fr n0 L ∧ Keep h0 h [sb, va] ∧ (Exa Z h sb cSB) ∧ (Fld Z h sb cAS "value" "[B" (.ref va)) ∧ (Fld Z h sb cAS "coder" "B" (.int 0)) ∧ (Fld Z h sb cAS "count" "I" (.int 1)) ∧ (Fld Z h sb cAS "maybeLatin1" "Z" (.int ml)) ∧ (Arv Z h va kv .byte (16 : Int32) [(.int (nar .byte ((44 : Int32).toInt8.toInt32))), (.int u1)] (.int (0 : Int32)))
theorem ef_sep1 (m : MethodId) (x0 : Addr) : entryFrame m #[(.ref x0)] 1 = mkF m 0 #[.val (.ref x0)] [] := by first | (simp [entryFrame, mkF, argsToLocals, Value.category]; done) | rfl
set_option maxRecDepth 65536 in
set_option maxHeartbeats 40000000 in
theorem rm_sep1 (l : Launch) (Z : State) (a0 : Array Value) (hw : ∀ d ∈ tables_1, d.before a0 Z = true) (ws : List Jvm.Cond) (jw : Addr) (sb : Addr) (va : Addr) (kv : ClassId) (u0 : Int32) (u1 : Int32) (ml : Int32) (G1 : Int32) (h0 : Heap) (n0 : Nat) (Z0 : n0 ≤ h0.size) (H0 : Exa Z h0 jw cJW) (H1 : Fld Z h0 jw cJW "text" "Ljava/lang/StringBuilder;" (.ref sb)) (H2 : Fld Z h0 jw cJW "afterValue" "Z" (.int 1)) (H3 : Exa Z h0 sb cSB) (H4 : Fld Z h0 sb cAS "value" "[B" (.ref va)) (H5 : Fld Z h0 sb cAS "coder" "B" (.int 0)) (H6 : Fld Z h0 sb cAS "count" "I" (.int 0)) (H7 : Fld Z h0 sb cAS "maybeLatin1" "Z" (.int ml)) (H8 : Arv Z h0 va kv .byte (16 : Int32) [(.int u0), (.int u1)] (.int (0 : Int32))) (g_sb : n0 ≤ sb) (g_va : n0 ≤ va) (CS : Sta Z Z.heap "java/lang/String" "COMPACT_STRINGS" "Z" (.int G1)) (CSn : ¬ (G1 = (0 : Int32))) (O0 : Old Z n0 h0) :
    MetFree l mn20 (head1 (Jvm.Cond.code mn20 prog_33_method_13_code 1 none :: ws) ({ frames := 3, cells := 0, slots := 0, locals := 40 } : Room)) (fun a U => a = #[(.ref jw)] ∧ Z.Warmed39 U.vm ∧ U.heap = h0) (fun _ _ _ _ _ => True) (fun _ U o U' => ∃ v L, o = .returned v ∧ Q_sep1 Z jw sb va kv u0 u1 ml G1 h0 n0 v U'.heap L ∧ FrameEnd U o U' L ({ frames := 3, cells := 0, slots := 0, locals := 40 } : Room).cells ({ frames := 3, cells := 0, slots := 0, locals := 40 } : Room).slots) := by
  refine MetFree.of_bodySF (plainFor_of_name pn_com_example_adjoinery_adjoinery_JsonWriter) hisR ?_
  intro p e s m args below meth c s₁ Bd hml0 hP hK
  obtain ⟨rfl, hZ, hh⟩ := hP
  have hx := Bd.exec
  have hby := Bd.bytes
  have hml : c.maxLocals = 1 := hml0
  have hown : s.vm.findClass "com/example/adjoinery/adjoinery/JsonWriter" = some m.cls := findClass_of_methodNamed Bd.named
  have hnm := (name_of_methodNamed Bd.named Bd.method).1
  have X0 : Stand p l e ({ frames := 3, cells := 0, slots := 0, locals := 40 } : Room) s m #[(.ref jw)] below meth c s₁ [] 0 0 := Stand.of_body Bd
  have e0 : s₁.heap = h0 := by rw [← hh, Bd.state]; rfl
  have N0 := Fr.nil n0
  refine go_st (fun t k => castTop (ef_sep1 m jw) k) ?_
  show Go _ _ _ _ (s₁.setTop (mkF m 0 #[rv jw] []))
  refine go_st (fun t k => XS.aloadN X0.here hx rfl (hb hby d20_0) rfl rfl k) ?_
  show Go _ _ _ _ (s₁.setTop (mkF m 1 #[rv jw] [(.ref jw)]))
  obtain ⟨T1, X1, e1, st1⟩ := getF X0 hx hZ hown (host := "") (Or.inl (w122 hw)) Via.refl e0 H2 (g := (mkF m 1 #[rv jw] [(.ref jw)])) rfl rfl (hb hby d20_1)
  refine go_st (fun t k => st1 t k) ?_
  show Go _ _ _ _ (T1.setTop (mkF m 4 #[rv jw] [(.int 1)]))
  refine go_st (fun t k => XS.ifNo X1.here hx rfl (hb hby d20_4) rfl ((if0 _ _).trans (feq ((by decide) : ¬ ((1 : Int32) = (0 : Int32)))).1) k) ?_
  show Go _ _ _ _ (T1.setTop (mkF m 7 #[rv jw] []))
  refine go_st (fun t k => XS.aloadN X1.here hx rfl (hb hby d20_7) rfl rfl k) ?_
  show Go _ _ _ _ (T1.setTop (mkF m 8 #[rv jw] [(.ref jw)]))
  obtain ⟨T2, X2, e2, st2⟩ := getF X1 hx hZ hown (host := "") (Or.inl (w30 hw)) Via.refl e1 H1 (g := (mkF m 8 #[rv jw] [(.ref jw)])) rfl rfl (hb hby d20_8)
  refine go_st (fun t k => st2 t k) ?_
  refine go_st (fun t k => XS.bipush X2.here hx rfl (hb hby d20_11) k) ?_
  show Go _ _ _ _ (T2.setTop (mkF m 13 #[rv jw] [(.int 44), (.ref sb)]))
  obtain ⟨cq3, kq3, q3a, q3b, q3c⟩ := isOf hZ e2 H3
  obtain ⟨_, _, ⟨T3, L3, kk3, nn3⟩, -, X3, ⟨Lc3, hQ3, lq3, yq3, zq3⟩, st3⟩ := X2.virtualBack hx (y := mn21) (z := mn21) hown (mvT hZ (w124 hw)) (mvT hZ (w125 hw)) (nf_same (y := mn21) (y' := mn4) (a0 := #[]) rfl (mvT hZ (w39 hw)) (notFace_of_selects (args := #[]) (mvT hZ (w40 hw)))) (mvT hZ (w127 hw)) (mvT hZ (w126 hw)) (by decide) (backOf (W := 0) (rm_sbapc0 l Z a0 hw [] sb va kv u0 u1 ml (44 : Int32) G1 h0 n0 (Nat.le_trans Z0 (Nat.le_refl _)) H3 H4 H5 H6 H7 H8 g_sb g_va (by decide) CS CSn O0) hZ (w128 hw) (w12 hw) (by decide) (by decide)) q3a q3c (g := (mkF m 13 #[rv jw] [(.int 44), (.ref sb)])) rfl (by rw [hml]; rfl) (Steps.refl _) (argsL := [(.int 44)]) (rest := []) (lenOf pd_13 rfl) rfl (by show 2 * 0 + _ ≤ _; exact Nat.le_of_eq rfl) (hb hby d20_13) (fun _ _ => ⟨rfl, e2, (by decide : 0 + 0 ≤ _), (by decide : 0 + 0 ≤ _)⟩)
  dsimp only [Pt.U, Pt.locs, Pt.cells, Pt.slots] at X3 lq3 yq3 zq3 st3 hQ3
  subst lq3 yq3 zq3
  obtain ⟨h3, e3⟩ : ∃ z, T3.heap = z := ⟨_, rfl⟩
  rw [e3] at hQ3
  obtain ⟨rfl, N3q, K3, p3_0, p3_1, p3_2, p3_3, p3_4, p3_5⟩ := hQ3
  have N3 := Fr.app N0 N3q
  refine go_tr st3 ?_
  show Go _ _ _ _ (T3.setTop (mkF m 16 #[rv jw] [(.ref sb)]))
  refine go_st (fun t k => XS.pop X3.here hx rfl (hb hby d20_16) rfl rfl k) ?_
  show Go _ _ _ _ (T3.setTop (mkF m 17 #[rv jw] []))
  have ke4 : Keep h0 h3 [sb, va] := (Keep.trans (Keep.refl h0 [sb, va]) K3 (allS (Or.inl (List.mem_of_getElem? (i := 0) rfl)) (allS (Or.inl (List.mem_of_getElem? (i := 1) rfl)) all0)))
  obtain ⟨fs, hr, hrun, hended, hW, hsame⟩ := X3.leave (v := none) (fun _ => rfl)
  refine ⟨_, _, ?_, hrun, hended, _, _, rfl, ?_, ⟨_, rfl⟩, hW, hsame.mono (by decide) (by decide)⟩
  · exact X3.returnOut hx Bd.returns (hb hby d20_17) hr
  · show Q_sep1 _ _ _ _ _ _ _ _ _ _ _ _ T3.heap _
    rw [e3]
    exact ⟨rfl, N3, ke4, p3_0, p3_1, p3_2, p3_3, p3_4, p3_5⟩
def Q_number01 (Z : State) (jw : Addr) (sb : Addr) (va : Addr) (kv : ClassId) (u0 : Int32) (u1 : Int32) (ml : Int32) (dg : Int32) (da : Addr) (dc : Cell) (G1 : Int32) (h0 : Heap) (n0 : Nat) (vR : Option Value) (h : Heap) (L : List Loc) : Prop := vR = some (.ref jw) ∧ Fr n0 L ∧ Keep h0 h [sb, va, jw] ∧ (Exa Z h jw cJW) ∧ (Fld Z h jw cJW "text" "Ljava/lang/StringBuilder;" (.ref sb)) ∧ (Fld Z h jw cJW "afterValue" "Z" (.int 1)) ∧ (Exa Z h sb cSB) ∧ (Fld Z h sb cAS "value" "[B" (.ref va)) ∧ (Fld Z h sb cAS "coder" "B" (.int 0)) ∧ (Fld Z h sb cAS "count" "I" (.int 2)) ∧ (Fld Z h sb cAS "maybeLatin1" "Z" (.int ml)) ∧ (Arv Z h va kv .byte (16 : Int32) [(.int (nar .byte ((44 : Int32).toInt8.toInt32))), (.int (48 + dg))] (.int (0 : Int32)))
theorem ef_number01 (m : MethodId) (x0 : Addr) (x1 : Int64) : entryFrame m #[(.ref x0), (.long x1)] 3 = mkF m 0 #[.val (.ref x0), .val (.long x1), .second] [] := by first | (simp [entryFrame, mkF, argsToLocals, Value.category]; done) | rfl
set_option maxRecDepth 65536 in
set_option maxHeartbeats 40000000 in
theorem rm_number01 (l : Launch) (Z : State) (a0 : Array Value) (hw : ∀ d ∈ tables_1, d.before a0 Z = true) (ws : List Jvm.Cond) (jw : Addr) (sb : Addr) (va : Addr) (kv : ClassId) (u0 : Int32) (u1 : Int32) (ml : Int32) (dg : Int32) (da : Addr) (dc : Cell) (G1 : Int32) (h0 : Heap) (n0 : Nat) (Z0 : n0 ≤ h0.size) (H0 : Exa Z h0 jw cJW) (H1 : Fld Z h0 jw cJW "text" "Ljava/lang/StringBuilder;" (.ref sb)) (H2 : Fld Z h0 jw cJW "afterValue" "Z" (.int 1)) (H3 : Exa Z h0 sb cSB) (H4 : Fld Z h0 sb cAS "value" "[B" (.ref va)) (H5 : Fld Z h0 sb cAS "coder" "B" (.int 0)) (H6 : Fld Z h0 sb cAS "count" "I" (.int 0)) (H7 : Fld Z h0 sb cAS "maybeLatin1" "Z" (.int ml)) (H8 : Arv Z h0 va kv .byte (16 : Int32) [(.int u0), (.int u1)] (.int (0 : Int32))) (g_sb : n0 ≤ sb) (g_va : n0 ≤ va) (g_jw : n0 ≤ jw) (hdg : Dg dg) (DS : Sta Z Z.heap "java/lang/Integer" "DigitOnes" "[B" (.ref da)) (DA : Arr Z Z.heap da dc .byte) (DV : dc.slots.size = 100 ∧ ∀ i : Nat, i < 10 → dc.slots[i]? = some (.int (48 + Int32.ofNat i))) (CS : Sta Z Z.heap "java/lang/String" "COMPACT_STRINGS" "Z" (.int G1)) (CSn : ¬ (G1 = (0 : Int32))) (O0 : Old Z n0 h0) :
    MetFree l mn32 (head1 (Jvm.Cond.code mn32 prog_33_method_9_code 3 (some (.object "com/example/adjoinery/adjoinery/JsonWriter")) :: ws) ({ frames := 4, cells := 0, slots := 0, locals := 52 } : Room)) (fun a U => a = #[(.ref jw), (.long dg.toInt64)] ∧ Z.Warmed39 U.vm ∧ U.heap = h0) (fun _ _ _ _ _ => True) (fun _ U o U' => ∃ v L, o = .returned v ∧ Q_number01 Z jw sb va kv u0 u1 ml dg da dc G1 h0 n0 v U'.heap L ∧ FrameEnd U o U' L ({ frames := 4, cells := 0, slots := 0, locals := 52 } : Room).cells ({ frames := 4, cells := 0, slots := 0, locals := 52 } : Room).slots) := by
  refine MetFree.of_bodySF (plainFor_of_name pn_com_example_adjoinery_adjoinery_JsonWriter) hisR ?_
  intro p e s m args below meth c s₁ Bd hml0 hP hK
  obtain ⟨rfl, hZ, hh⟩ := hP
  have hx := Bd.exec
  have hby := Bd.bytes
  have hml : c.maxLocals = 3 := hml0
  have hown : s.vm.findClass "com/example/adjoinery/adjoinery/JsonWriter" = some m.cls := findClass_of_methodNamed Bd.named
  have hnm := (name_of_methodNamed Bd.named Bd.method).1
  have X0 : Stand p l e ({ frames := 4, cells := 0, slots := 0, locals := 52 } : Room) s m #[(.ref jw), (.long dg.toInt64)] below meth c s₁ [] 0 0 := Stand.of_body Bd
  have e0 : s₁.heap = h0 := by rw [← hh, Bd.state]; rfl
  have N0 := Fr.nil n0
  refine go_st (fun t k => castTop (ef_number01 m jw dg.toInt64) k) ?_
  show Go _ _ _ _ (s₁.setTop (mkF m 0 #[rv jw, .val (.long dg.toInt64), .second] []))
  refine go_st (fun t k => XS.aloadN X0.here hx rfl (hb hby d32_0) rfl rfl k) ?_
  show Go _ _ _ _ (s₁.setTop (mkF m 1 #[rv jw, .val (.long dg.toInt64), .second] [(.ref jw)]))
  obtain ⟨cq1, q1, q1'⟩ := H0.cell
  obtain ⟨_, _, ⟨T1, L1, kk1, nn1⟩, -, X1, ⟨Lc1, hQ1, lq1, yq1, zq1⟩, st1⟩ := X0.privateBack hx (y := mn20) hown (mvT hZ (w118 hw)) (mvT hZ (w119 hw)) (mvT hZ (sel_priv (w120 hw) (w119 hw) (nf_same (y := mn20) (y' := mn3) rfl (w34 hw) (notFace_of_selects (w35 hw))) (by decide))) (Cond.privateMethod_at (mvP hZ (w120 hw) (args := #[]))) (mvT hZ (w121 hw)) (by decide) (backOf (W := 0) (rm_sep1 l Z a0 hw [] jw sb va kv u0 u1 ml G1 h0 n0 (Nat.le_trans Z0 (Nat.le_refl _)) H0 H1 H2 H3 H4 H5 H6 H7 H8 g_sb g_va CS CSn O0) hZ (w121 hw) (w3 hw) (by decide) (by decide)) (g := (mkF m 1 #[rv jw, .val (.long dg.toInt64), .second] [(.ref jw)])) rfl (by rw [hml]; rfl) (Steps.refl _) (a := jw) (by rw [e0]; exact q1) q1' (argsL := []) (rest := []) (lenOf pd_1 rfl) rfl (by show 2 * 0 + _ ≤ _; exact Nat.le_of_eq rfl) (hb hby d32_1) (fun _ _ => ⟨rfl, e0, (by decide : 0 + 0 ≤ _), (by decide : 0 + 0 ≤ _)⟩)
  dsimp only [Pt.U, Pt.locs, Pt.cells, Pt.slots] at X1 lq1 yq1 zq1 st1 hQ1
  subst lq1 yq1 zq1
  obtain ⟨h1, e1⟩ : ∃ z, T1.heap = z := ⟨_, rfl⟩
  rw [e1] at hQ1
  obtain ⟨rfl, N1q, K1, p1_0, p1_1, p1_2, p1_3, p1_4, p1_5⟩ := hQ1
  have N1 := Fr.app N0 N1q
  refine go_tr st1 ?_
  refine go_st (fun t k => XS.aloadN X1.here hx rfl (hb hby d32_4) rfl rfl k) ?_
  show Go _ _ _ _ (T1.setTop (mkF m 5 #[rv jw, .val (.long dg.toInt64), .second] [(.ref jw)]))
  have nq2 : jw ≠ va := Exa.neArv H0 H8 (w2 hw)
  have nq3 : jw ≠ sb := ne_exa H0 H3 (by decide)
  have f4 : Fld Z h1 jw cJW "text" "Ljava/lang/StringBuilder;" (.ref sb) := (H1.keep K1 (ninS nq3 (ninS nq2 nin0)))
  obtain ⟨T5, X5, e5, st5⟩ := getF X1 hx hZ hown (host := "") (Or.inl (w30 hw)) Via.refl e1 f4 (g := (mkF m 5 #[rv jw, .val (.long dg.toInt64), .second] [(.ref jw)])) rfl rfl (hb hby d32_5)
  refine go_st (fun t k => st5 t k) ?_
  refine go_st (fun t k => XS.lloadN X5.here hx rfl (hb hby d32_8) rfl k) ?_
  show Go _ _ _ _ (T5.setTop (mkF m 9 #[rv jw, .val (.long dg.toInt64), .second] [(.long dg.toInt64), (.ref sb)]))
  have oe6 : Old Z n0 h1 := (Old.keep O0 K1 (allS g_sb (allS g_va all0)))
  obtain ⟨cq7, kq7, q7a, q7b, q7c⟩ := isOf hZ e5 p1_0
  obtain ⟨_, _, ⟨T7, L7, kk7, nn7⟩, -, X7, ⟨Lc7, hQ7, lq7, yq7, zq7⟩, st7⟩ := X5.virtualBack hx (y := mn33) (z := mn33) hown (mvT hZ (w179 hw)) (mvT hZ (w180 hw)) (nf_same (y := mn33) (y' := mn4) (a0 := #[]) rfl (mvT hZ (w39 hw)) (notFace_of_selects (args := #[]) (mvT hZ (w40 hw)))) (mvT hZ (w182 hw)) (mvT hZ (w181 hw)) (by decide) (backOf (W := 0) (rm_sbapj1 l Z a0 hw [] sb va kv (nar .byte ((44 : Int32).toInt8.toInt32)) u1 ml dg da dc G1 h1 n0 (Nat.le_trans Z0 K1.1) p1_0 p1_1 p1_2 p1_3 p1_4 p1_5 g_sb g_va hdg DS DA DV CS CSn oe6) hZ (w183 hw) (w12 hw) (by decide) (by decide)) q7a q7c (g := (mkF m 9 #[rv jw, .val (.long dg.toInt64), .second] [(.long dg.toInt64), (.ref sb)])) rfl (by rw [hml]; rfl) (Steps.refl _) (argsL := [(.long dg.toInt64)]) (rest := []) (lenOf pd_24 rfl) rfl (by show 2 * 0 + _ ≤ _; exact Nat.le_of_eq rfl) (hb hby d32_9) (fun _ _ => ⟨rfl, e5, (by decide : 0 + 0 ≤ _), (by decide : 0 + 0 ≤ _)⟩)
  dsimp only [Pt.U, Pt.locs, Pt.cells, Pt.slots] at X7 lq7 yq7 zq7 st7 hQ7
  subst lq7 yq7 zq7
  obtain ⟨h7, e7⟩ : ∃ z, T7.heap = z := ⟨_, rfl⟩
  rw [e7] at hQ7
  obtain ⟨rfl, N7q, K7, p7_0, p7_1, p7_2, p7_3, p7_4, p7_5⟩ := hQ7
  have N7 := Fr.app N1 N7q
  refine go_tr st7 ?_
  show Go _ _ _ _ (T7.setTop (mkF m 12 #[rv jw, .val (.long dg.toInt64), .second] [(.ref sb)]))
  refine go_st (fun t k => XS.pop X7.here hx rfl (hb hby d32_12) rfl rfl k) ?_
  refine go_st (fun t k => XS.aloadN X7.here hx rfl (hb hby d32_13) rfl rfl k) ?_
  refine go_st (fun t k => XS.iconst X7.here hx rfl (hb hby d32_14) k) ?_
  show Go _ _ _ _ (T7.setTop (mkF m 15 #[rv jw, .val (.long dg.toInt64), .second] [(.int 1), (.ref jw)]))
  have f8 : Fld Z h7 jw cJW "afterValue" "Z" (.int 1) := ((H2.keep K1 (ninS nq3 (ninS nq2 nin0))).keep K7 (ninS nq3 (ninS nq2 nin0)))
  have f9 : Exa Z h7 jw cJW := ((H0.keep K1).keep K7)
  obtain ⟨T10, h10, X10, e10, W10, st10⟩ := putFN X7 hx hZ hown (w122 hw) Via.refl e7 f8 f9 (Or.inl (w123 hw)) (w2 hw) (ty := .boolean) (v' := (.int 1)) (by decide) rfl rfl (g := (mkF m 15 #[rv jw, .val (.long dg.toInt64), .second] [(.int 1), (.ref jw)])) rfl rfl (hb hby d32_15)
  have N10 := Fr.snoc X10 N7 g_jw
  have f11 : Fld Z h10 jw cJW "afterValue" "Z" (.int 1) := f8.same W10
  refine go_st (fun t k => st10 t k) ?_
  refine go_st (fun t k => XS.aloadN X10.here hx rfl (hb hby d32_18) rfl rfl k) ?_
  show Go _ _ _ _ (T10.setTop (mkF m 19 #[rv jw, .val (.long dg.toInt64), .second] [(.ref jw)]))
  have f12 : Exa Z h10 jw cJW := (f9.wr W10)
  have f13 : Fld Z h10 jw cJW "text" "Ljava/lang/StringBuilder;" (.ref sb) := ((f4.keep K7 (ninS nq3 (ninS nq2 nin0))).other W10 (Or.inr (slot_ne (Or.inr (w31 hw)) (Or.inl (w123 hw)) (by decide) (t := (.object "java/lang/StringBuilder")) (t' := .boolean) (by decide) (by decide))))
  have f14 : Exa Z h10 sb cSB := (p7_0.wr W10)
  have f15 : Fld Z h10 sb cAS "value" "[B" (.ref va) := (p7_1.other W10 (Or.inl (Ne.symm nq3)))
  have f16 : Fld Z h10 sb cAS "coder" "B" (.int 0) := (p7_2.other W10 (Or.inl (Ne.symm nq3)))
  have f17 : Fld Z h10 sb cAS "count" "I" (.int 2) := (p7_3.other W10 (Or.inl (Ne.symm nq3)))
  have f18 : Fld Z h10 sb cAS "maybeLatin1" "Z" (.int ml) := (p7_4.other W10 (Or.inl (Ne.symm nq3)))
  have f19 : Arv Z h10 va kv .byte (16 : Int32) [(.int (nar .byte ((44 : Int32).toInt8.toInt32))), (.int (48 + dg))] (.int (0 : Int32)) := (p7_5.other W10 (Ne.symm nq2))
  have ke20 : Keep h0 h1 [sb, va, jw] := (Keep.trans (Keep.refl h0 [sb, va, jw]) K1 (allS (Or.inl (List.mem_of_getElem? (i := 0) rfl)) (allS (Or.inl (List.mem_of_getElem? (i := 1) rfl)) all0)))
  have ke21 : Keep h0 h7 [sb, va, jw] := (Keep.trans ke20 K7 (allS (Or.inl (List.mem_of_getElem? (i := 0) rfl)) (allS (Or.inl (List.mem_of_getElem? (i := 1) rfl)) all0)))
  have ke22 : Keep h0 h10 [sb, va, jw] := (Keep.wr ke21 W10 (Or.inl (List.mem_of_getElem? (i := 2) rfl)))
  obtain ⟨fs, hr, hrun, hended, hW, hsame⟩ := X10.leave (v := some (.ref jw)) (fun h => by rw [Bd.returns] at h; cases h)
  refine ⟨_, _, ?_, hrun, hended, _, _, rfl, ?_, ⟨_, rfl⟩, hW, hsame.mono (by decide) (by decide)⟩
  · exact retOut X10 hx Bd.returns rfl (Or.inr (Or.inr (Or.inr (Or.inr ⟨rfl, rfl, rfl⟩)))) (hb hby d32_19) hr
  · show Q_number01 _ _ _ _ _ _ _ _ _ _ _ _ _ _ _ T10.heap _
    rw [e10]
    exact ⟨rfl, N10, ke22, f12, f13, f11, f14, f15, f16, f17, f18, f19⟩
def Q_law (Z : State) (p0 : Int32) (p1 : Int32) (p2 : Int32) (G1 : Int32) (da : Addr) (dc : Cell) (h0 : Heap) (n0 : Nat) (vR : Option Value) (h : Heap) (L : List Loc) : Prop := vR = some (.int 1) ∧ Fr n0 L ∧ Keep h0 h []
theorem ef_law (m : MethodId) (x0 : Int32) (x1 : Int32) (x2 : Int32) : entryFrame m #[(.int x0), (.int x1), (.int x2)] maxLocals = mkF m 0 #[.val (.int x0), .val (.int x1), .val (.int x2), .unset, .unset, .unset, .unset, .unset, .unset, .unset, .unset, .unset, .unset, .unset, .unset, .unset] [] := by first | (simp [entryFrame, mkF, argsToLocals, Value.category, maxLocals]; done) | rfl
set_option maxRecDepth 65536 in
set_option maxHeartbeats 40000000 in
theorem rm_law (l : Launch) (Z : State) (a0 : Array Value) (hw : ∀ d ∈ tables_1, d.before a0 Z = true) (ws : List Jvm.Cond) (p0 : Int32) (p1 : Int32) (p2 : Int32) (G1 : Int32) (da : Addr) (dc : Cell) (h0 : Heap) (n0 : Nat) (Z0 : n0 ≤ h0.size) (CS : Sta Z Z.heap "java/lang/String" "COMPACT_STRINGS" "Z" (.int G1)) (CSn : ¬ (G1 = (0 : Int32))) (DS : Sta Z Z.heap "java/lang/Integer" "DigitOnes" "[B" (.ref da)) (DA : Arr Z Z.heap da dc .byte) (DV : dc.slots.size = 100 ∧ ∀ i : Nat, i < 10 → dc.slots[i]? = some (.int (48 + Int32.ofNat i))) (O0 : Old Z n0 h0) :
    MetFree l x (head1 (Jvm.Cond.code x code maxLocals ret :: ws) room_1) (fun a U => a = #[(.int p0), (.int p1), (.int p2)] ∧ Z.Warmed39 U.vm ∧ U.heap = h0) (fun _ _ _ _ _ => True) (fun _ U o U' => ∃ v L, o = .returned v ∧ Q_law Z p0 p1 p2 G1 da dc h0 n0 v U'.heap L ∧ FrameEnd U o U' L room_1.cells room_1.slots) := by
  refine MetFree.of_bodySF (plainFor_of_name pn_com_example_adjoinery_adjoinery_JsonWriterDrainPinLaw) hisR ?_
  intro p e s m args below meth c s₁ Bd hml0 hP hK
  obtain ⟨rfl, hZ, hh⟩ := hP
  have hx := Bd.exec
  have hby := Bd.bytes
  have hml : c.maxLocals = 16 := hml0
  have hown : s.vm.findClass "com/example/adjoinery/adjoinery/JsonWriterDrainPinLaw" = some m.cls := findClass_of_methodNamed Bd.named
  have hnm := (name_of_methodNamed Bd.named Bd.method).1
  have X0 : Stand p l e room_1 s m #[(.int p0), (.int p1), (.int p2)] below meth c s₁ [] 0 0 := Stand.of_body Bd
  have e0 : s₁.heap = h0 := by rw [← hh, Bd.state]; rfl
  have N0 := Fr.nil n0
  refine go_st (fun t k => castTop (ef_law m p0 p1 p2) k) ?_
  refine go_named (fun PP hPP => ?_)
  show Go _ _ _ _ (s₁.setTop (mkF m 0 #[iv p0, iv p1, iv p2, .unset, .unset, .unset, .unset, .unset, .unset, .unset, .unset, .unset, .unset, .unset, .unset, .unset] []))
  refine go_st (fun t k => XS.iloadN X0.here hx rfl (hb hby at_0) rfl k) ?_
  refine go_st (fun t k => XS.iconst X0.here hx rfl (hb hby at_1) k) ?_
  refine go_st (fun t k => XS.iand X0.here hx rfl (hb hby at_2) rfl k) ?_
  show Go _ _ _ _ (s₁.setTop (mkF m 3 #[iv p0, iv p1, iv p2, .unset, .unset, .unset, .unset, .unset, .unset, .unset, .unset, .unset, .unset, .unset, .unset, .unset] [(.int (p0 &&& (1 : Int32)))]))
  by_cases hc1 : (p0 &&& (1 : Int32)) = (0 : Int32)
  · skip
    refine go_st (fun t k => XS.ifYes X0.here hx rfl (pc0 := 3) (pc' := 10) rfl (hb hby at_3) rfl ((if0 _ _).trans (teq (hc1 : (p0 &&& (1 : Int32)) = (0 : Int32))).1) (by decide) (by decide) k) ?_
    show Go _ _ _ _ (s₁.setTop (mkF m 10 #[iv p0, iv p1, iv p2, .unset, .unset, .unset, .unset, .unset, .unset, .unset, .unset, .unset, .unset, .unset, .unset, .unset] []))
    refine go_st (fun t k => XS.iconst X0.here hx rfl (hb hby at_10) k) ?_
    refine go_st (fun t k => XS.istoreN X0.here hx rfl (hb hby at_11) rfl (l' := #[iv p0, iv p1, iv p2, iv 0, .unset, .unset, .unset, .unset, .unset, .unset, .unset, .unset, .unset, .unset, .unset, .unset]) rfl k) ?_
    refine go_st (fun t k => XS.iloadN X0.here hx rfl (hb hby at_12) rfl k) ?_
    refine go_st (fun t k => XS.iconst X0.here hx rfl (hb hby at_13) k) ?_
    refine go_st (fun t k => XS.iand X0.here hx rfl (hb hby at_14) rfl k) ?_
    show Go _ _ _ _ (s₁.setTop (mkF m 15 #[iv p0, iv p1, iv p2, iv 0, .unset, .unset, .unset, .unset, .unset, .unset, .unset, .unset, .unset, .unset, .unset, .unset] [(.int (p0 &&& (2 : Int32)))]))
    have j2 : ∀ (T : State) (L : List Loc) (vs_ : Int32), Stand p l e room_1 s m #[(.int p0), (.int p1), (.int p2)] below meth c T L 0 0 → Fr n0 L → T.heap = h0 → (vs_ = (0 : Int32) ∨ vs_ = (1 : Int32)) → Go p.tables e below PP (T.setTop (mkF m 23 #[iv p0, iv p1, iv p2, iv 0, .unset, .unset, .unset, .unset, .unset, .unset, .unset, .unset, .unset, .unset, .unset, .unset] [(.int vs_)])) := by
      intro T2 L2 vs_ X2 N2 e2 hvs
      show Go _ _ _ _ (T2.setTop (mkF m 23 #[iv p0, iv p1, iv p2, iv 0, .unset, .unset, .unset, .unset, .unset, .unset, .unset, .unset, .unset, .unset, .unset, .unset] [(.int vs_)]))
      refine go_st (fun t k => XS.istore X2.here hx rfl (hb hby at_23) rfl (l' := #[iv p0, iv p1, iv p2, iv 0, iv vs_, .unset, .unset, .unset, .unset, .unset, .unset, .unset, .unset, .unset, .unset, .unset]) rfl k) ?_
      refine go_st (fun t k => XS.iloadN X2.here hx rfl (hb hby at_25) rfl k) ?_
      show Go _ _ _ _ (T2.setTop (mkF m 26 #[iv p0, iv p1, iv p2, iv 0, iv vs_, .unset, .unset, .unset, .unset, .unset, .unset, .unset, .unset, .unset, .unset, .unset] [(.int p1)]))
      refine go_st (fun t k => X2.ldcInt hx hown (mvT hZ (w0 hw)) (g := (mkF m 26 #[iv p0, iv p1, iv p2, iv 0, iv vs_, .unset, .unset, .unset, .unset, .unset, .unset, .unset, .unset, .unset, .unset, .unset] [(.int p1)])) rfl (hb hby at_26) t k) ?_
      refine go_st (fun t k => XS.iand X2.here hx rfl (hb hby at_28) rfl k) ?_
      refine go_st (fun t k => XS.bipush X2.here hx rfl (hb hby at_29) k) ?_
      show Go _ _ _ _ (T2.setTop (mkF m 31 #[iv p0, iv p1, iv p2, iv 0, iv vs_, .unset, .unset, .unset, .unset, .unset, .unset, .unset, .unset, .unset, .unset, .unset] [(.int 10), (.int (p1 &&& (2147483647 : Int32)))]))
      refine go_st (fun t k => iremM X2 hx rfl (hb hby at_31) rfl (by decide) k) ?_
      show Go _ _ _ _ (T2.setTop (mkF m 32 #[iv p0, iv p1, iv p2, iv 0, iv vs_, .unset, .unset, .unset, .unset, .unset, .unset, .unset, .unset, .unset, .unset, .unset] [(.int ((p1 &&& (2147483647 : Int32)) % (10 : Int32)))]))
      obtain ⟨q1, h_q1⟩ : ∃ z, z = ((p1 &&& (2147483647 : Int32)) % (10 : Int32)) := ⟨_, rfl⟩
      rw [← h_q1]
      show Go _ _ _ _ (T2.setTop (mkF m 32 #[iv p0, iv p1, iv p2, iv 0, iv vs_, .unset, .unset, .unset, .unset, .unset, .unset, .unset, .unset, .unset, .unset, .unset] [(.int q1)]))
      have hq1 : Dg q1 := by rw [h_q1]; exact rem10 _
      refine go_st (fun t k => XS.istore X2.here hx rfl (hb hby at_32) rfl (l' := #[iv p0, iv p1, iv p2, iv 0, iv vs_, iv q1, .unset, .unset, .unset, .unset, .unset, .unset, .unset, .unset, .unset, .unset]) rfl k) ?_
      refine go_st (fun t k => XS.iloadN X2.here hx rfl (hb hby at_34) rfl k) ?_
      show Go _ _ _ _ (T2.setTop (mkF m 35 #[iv p0, iv p1, iv p2, iv 0, iv vs_, iv q1, .unset, .unset, .unset, .unset, .unset, .unset, .unset, .unset, .unset, .unset] [(.int p2)]))
      refine go_st (fun t k => X2.ldcInt hx hown (mvT hZ (w0 hw)) (g := (mkF m 35 #[iv p0, iv p1, iv p2, iv 0, iv vs_, iv q1, .unset, .unset, .unset, .unset, .unset, .unset, .unset, .unset, .unset, .unset] [(.int p2)])) rfl (hb hby at_35) t k) ?_
      refine go_st (fun t k => XS.iand X2.here hx rfl (hb hby at_37) rfl k) ?_
      refine go_st (fun t k => XS.bipush X2.here hx rfl (hb hby at_38) k) ?_
      show Go _ _ _ _ (T2.setTop (mkF m 40 #[iv p0, iv p1, iv p2, iv 0, iv vs_, iv q1, .unset, .unset, .unset, .unset, .unset, .unset, .unset, .unset, .unset, .unset] [(.int 10), (.int (p2 &&& (2147483647 : Int32)))]))
      refine go_st (fun t k => iremM X2 hx rfl (hb hby at_40) rfl (by decide) k) ?_
      show Go _ _ _ _ (T2.setTop (mkF m 41 #[iv p0, iv p1, iv p2, iv 0, iv vs_, iv q1, .unset, .unset, .unset, .unset, .unset, .unset, .unset, .unset, .unset, .unset] [(.int ((p2 &&& (2147483647 : Int32)) % (10 : Int32)))]))
      obtain ⟨q2, h_q2⟩ : ∃ z, z = ((p2 &&& (2147483647 : Int32)) % (10 : Int32)) := ⟨_, rfl⟩
      rw [← h_q2]
      show Go _ _ _ _ (T2.setTop (mkF m 41 #[iv p0, iv p1, iv p2, iv 0, iv vs_, iv q1, .unset, .unset, .unset, .unset, .unset, .unset, .unset, .unset, .unset, .unset] [(.int q2)]))
      have hq2 : Dg q2 := by rw [h_q2]; exact rem10 _
      refine go_st (fun t k => XS.istore X2.here hx rfl (hb hby at_41) rfl (l' := #[iv p0, iv p1, iv p2, iv 0, iv vs_, iv q1, iv q2, .unset, .unset, .unset, .unset, .unset, .unset, .unset, .unset, .unset]) rfl k) ?_
      refine go_st (fun t k => XS.bipush X2.here hx rfl (hb hby at_43) k) ?_
      refine go_st (fun t k => XS.iload X2.here hx rfl (hb hby at_45) rfl k) ?_
      refine go_st (fun t k => XS.iadd X2.here hx rfl (hb hby at_47) rfl k) ?_
      refine go_st (fun t k => XS.i2c X2.here hx rfl (hb hby at_48) rfl k) ?_
      show Go _ _ _ _ (T2.setTop (mkF m 49 #[iv p0, iv p1, iv p2, iv 0, iv vs_, iv q1, iv q2, .unset, .unset, .unset, .unset, .unset, .unset, .unset, .unset, .unset] [(.int ((((48 : Int32) + q1)).toUInt32.toUInt16.toUInt32.toInt32))]))
      rw [show ((((48 : Int32) + q1)).toUInt32.toUInt16.toUInt32.toInt32) = (48 + q1) from (dg_all (P := fun q1 => ((((48 : Int32) + q1)).toUInt32.toUInt16.toUInt32.toInt32) = (48 + q1)) hq1 (by decide +kernel))]
      show Go _ _ _ _ (T2.setTop (mkF m 49 #[iv p0, iv p1, iv p2, iv 0, iv vs_, iv q1, iv q2, .unset, .unset, .unset, .unset, .unset, .unset, .unset, .unset, .unset] [(.int (48 + q1))]))
      refine go_st (fun t k => XS.istore X2.here hx rfl (hb hby at_49) rfl (l' := #[iv p0, iv p1, iv p2, iv 0, iv vs_, iv q1, iv q2, iv (48 + q1), .unset, .unset, .unset, .unset, .unset, .unset, .unset, .unset]) rfl k) ?_
      refine go_st (fun t k => XS.bipush X2.here hx rfl (hb hby at_51) k) ?_
      refine go_st (fun t k => XS.iload X2.here hx rfl (hb hby at_53) rfl k) ?_
      refine go_st (fun t k => XS.iadd X2.here hx rfl (hb hby at_55) rfl k) ?_
      refine go_st (fun t k => XS.i2c X2.here hx rfl (hb hby at_56) rfl k) ?_
      show Go _ _ _ _ (T2.setTop (mkF m 57 #[iv p0, iv p1, iv p2, iv 0, iv vs_, iv q1, iv q2, iv (48 + q1), .unset, .unset, .unset, .unset, .unset, .unset, .unset, .unset] [(.int ((((48 : Int32) + q2)).toUInt32.toUInt16.toUInt32.toInt32))]))
      rw [show ((((48 : Int32) + q2)).toUInt32.toUInt16.toUInt32.toInt32) = (48 + q2) from (dg_all (P := fun q2 => ((((48 : Int32) + q2)).toUInt32.toUInt16.toUInt32.toInt32) = (48 + q2)) hq2 (by decide +kernel))]
      show Go _ _ _ _ (T2.setTop (mkF m 57 #[iv p0, iv p1, iv p2, iv 0, iv vs_, iv q1, iv q2, iv (48 + q1), .unset, .unset, .unset, .unset, .unset, .unset, .unset, .unset] [(.int (48 + q2))]))
      refine go_st (fun t k => XS.istore X2.here hx rfl (hb hby at_57) rfl (l' := #[iv p0, iv p1, iv p2, iv 0, iv vs_, iv q1, iv q2, iv (48 + q1), iv (48 + q2), .unset, .unset, .unset, .unset, .unset, .unset, .unset]) rfl k) ?_
      show Go _ _ _ _ (T2.setTop (mkF m 59 #[iv p0, iv p1, iv p2, iv 0, iv vs_, iv q1, iv q2, iv (48 + q1), iv (48 + q2), .unset, .unset, .unset, .unset, .unset, .unset, .unset] []))
      obtain ⟨T3, h3, X3, e3, E3, A3, D3, -, st3⟩ := newO X2 hx hZ hown (w1 hw) (w2 hw) (w3 hw) e2 (g := (mkF m 59 #[iv p0, iv p1, iv p2, iv 0, iv vs_, iv q1, iv q2, iv (48 + q1), iv (48 + q2), .unset, .unset, .unset, .unset, .unset, .unset, .unset] [])) rfl (hb hby at_59) (by decide) (by decide)
      obtain ⟨b3, gq3⟩ : ∃ z, z = h0.size := ⟨_, rfl⟩
      rw [← gq3] at A3 D3 st3
      have f4 : Fld Z h3 b3 cJW "text" "Ljava/lang/StringBuilder;" .null := D3 (Or.inr (w31 hw)) (ty := (.object "java/lang/StringBuilder")) (by decide)
      have f5 : Fld Z h3 b3 cJW "afterValue" "Z" (.int 0) := D3 (Or.inl (w123 hw)) (ty := .boolean) (by decide)
      refine go_st (fun t k => st3 t k) ?_
      refine go_st (fun t k => XS.dup X3.here hx rfl (hb hby at_62) rfl rfl k) ?_
      show Go _ _ _ _ (T3.setTop (mkF m 63 #[iv p0, iv p1, iv p2, iv 0, iv vs_, iv q1, iv q2, iv (48 + q1), iv (48 + q2), .unset, .unset, .unset, .unset, .unset, .unset, .unset] [(.ref b3), (.ref b3)]))
      have g_b3 : n0 ≤ b3 := Nat.le_trans (Nat.le_trans Z0 (Nat.le_refl _)) (Nat.le_of_eq gq3.symm)
      have oe6 : Old Z n0 h3 := (Old.ext O0 E3)
      obtain ⟨_, _, ⟨T7, L7, kk7, nn7⟩, -, X7, ⟨Lc7, hQ7, lq7, yq7, zq7⟩, st7⟩ := X3.specialBack hx (y := mn0) rfl hown (mvT hZ (w4 hw)) (mvT hZ (w5 hw)) (mvT hZ (w6 hw)) (by decide) (backOf (W := 1) (rm_jinit l Z a0 hw [] b3 G1 h3 n0 (Nat.le_trans Z0 E3.1) A3 f4 f5 g_b3 CS CSn oe6) hZ (w6 hw) (w3 hw) (by decide) (by decide)) (g := (mkF m 63 #[iv p0, iv p1, iv p2, iv 0, iv vs_, iv q1, iv q2, iv (48 + q1), iv (48 + q2), .unset, .unset, .unset, .unset, .unset, .unset, .unset] [(.ref b3), (.ref b3)])) rfl (by rw [hml]; rfl) (Steps.refl _) (a := b3) (argsL := []) (rest := [(.ref b3)]) (lenOf pd_1 rfl) rfl (by show 2 * 0 + _ ≤ _; exact Nat.le_of_eq rfl) (hb hby at_63) (fun _ _ => ⟨rfl, e3, (by decide : 1 + 2 ≤ _), (by decide : 2 + 20 ≤ _)⟩)
      dsimp only [Pt.U, Pt.locs, Pt.cells, Pt.slots] at X7 lq7 yq7 zq7 st7 hQ7
      subst lq7 yq7 zq7
      obtain ⟨h7, e7⟩ : ∃ z, T7.heap = z := ⟨_, rfl⟩
      rw [e7] at hQ7
      obtain ⟨sb_7, va_7, kv_7, rfl, N7q, K7, gf7_0, lf7_0, gf7_1, lf7_1, p7_2, p7_3, p7_4, p7_5, p7_6, p7_7, p7_8, p7_9, p7_10⟩ := hQ7
      have N7 := Fr.app N2 N7q
      refine go_tr st7 ?_
      refine go_st (fun t k => XS.astore X7.here hx rfl (hb hby at_66) rfl rfl (l' := #[iv p0, iv p1, iv p2, iv 0, iv vs_, iv q1, iv q2, iv (48 + q1), iv (48 + q2), rv b3, .unset, .unset, .unset, .unset, .unset, .unset]) rfl k) ?_
      refine go_st (fun t k => XS.aload X7.here hx rfl (hb hby at_68) rfl rfl k) ?_
      show Go _ _ _ _ (T7.setTop (mkF m 70 #[iv p0, iv p1, iv p2, iv 0, iv vs_, iv q1, iv q2, iv (48 + q1), iv (48 + q2), rv b3, .unset, .unset, .unset, .unset, .unset, .unset] [(.ref b3)]))
      have oe8 : Old Z n0 h7 := (Old.keep oe6 K7 (allS g_b3 all0))
      have sz9 : h0.size ≤ h7.size := (Nat.le_trans E3.1 K7.1)
      obtain ⟨cq10, kq10, q10a, q10b, q10c⟩ := isOf hZ e7 p7_2
      obtain ⟨_, _, ⟨T10, L10, kk10, nn10⟩, -, X10, ⟨Lc10, hQ10, lq10, yq10, zq10⟩, st10⟩ := X7.virtualBack hx (y := mn3) (z := mn3) hown (mvT hZ (w32 hw)) (mvT hZ (w33 hw)) (notFace_of_selects (args := #[]) (mvT hZ (w35 hw))) (mvT hZ (w35 hw)) (mvT hZ (w34 hw)) (by decide) (backOf (W := 0) (rm_drain0 l Z a0 hw [] b3 sb_7 va_7 kv_7 (0 : Int32) (0 : Int32) (0 : Int32) G1 h7 n0 (Nat.le_trans Z0 sz9) p7_2 p7_3 p7_5 p7_6 p7_7 p7_8 p7_9 p7_10 gf7_0 CS CSn oe8) hZ (w36 hw) (w3 hw) (by decide) (by decide)) q10a q10c (g := (mkF m 70 #[iv p0, iv p1, iv p2, iv 0, iv vs_, iv q1, iv q2, iv (48 + q1), iv (48 + q2), rv b3, .unset, .unset, .unset, .unset, .unset, .unset] [(.ref b3)])) rfl (by rw [hml]; rfl) (Steps.refl _) (argsL := []) (rest := []) (lenOf pd_10 rfl) rfl (by show 2 * 0 + _ ≤ _; exact Nat.le_of_eq rfl) (hb hby at_70) (fun _ _ => ⟨rfl, e7, (by decide : 3 + 2 ≤ _), (by decide : 22 + 4 ≤ _)⟩)
      dsimp only [Pt.U, Pt.locs, Pt.cells, Pt.slots] at X10 lq10 yq10 zq10 st10 hQ10
      subst lq10 yq10 zq10
      obtain ⟨h10, e10⟩ : ∃ z, T10.heap = z := ⟨_, rfl⟩
      rw [e10] at hQ10
      obtain ⟨sa_10, ta_10, kt_10, rfl, N10q, K10, gf10_0, lf10_0, gf10_1, lf10_1, p10_2, p10_3, p10_4, p10_5, p10_6, p10_7, p10_8, p10_9, p10_10⟩ := hQ10
      have N10 := Fr.app N7 N10q
      refine go_tr st10 ?_
      refine go_st (fun t k => XS.astore X10.here hx rfl (hb hby at_73) rfl rfl (l' := #[iv p0, iv p1, iv p2, iv 0, iv vs_, iv q1, iv q2, iv (48 + q1), iv (48 + q2), rv b3, rv sa_10, .unset, .unset, .unset, .unset, .unset]) rfl k) ?_
      refine go_st (fun t k => XS.aload X10.here hx rfl (hb hby at_75) rfl rfl k) ?_
      show Go _ _ _ _ (T10.setTop (mkF m 77 #[iv p0, iv p1, iv p2, iv 0, iv vs_, iv q1, iv q2, iv (48 + q1), iv (48 + q2), rv b3, rv sa_10, .unset, .unset, .unset, .unset, .unset] [(.ref b3)]))
      have f11 : Exa Z h10 b3 cJW := (p7_2.keep K10)
      have nq12 : b3 ≠ sb_7 := Nat.ne_of_lt (Nat.lt_of_lt_of_le (Nat.lt_of_lt_of_le A3.lt (Nat.le_refl _)) lf7_0)
      have f13 : Fld Z h10 b3 cJW "text" "Ljava/lang/StringBuilder;" (.ref sb_7) := (p7_3.keep K10 (ninS nq12 nin0))
      have f14 : Fld Z h10 b3 cJW "afterValue" "Z" (.int 0) := (p7_4.keep K10 (ninS nq12 nin0))
      have nq15 : va_7 ≠ sb_7 := Ne.symm (Exa.neArv p7_5 p7_10 (w11 hw))
      have f16 : Arv Z h10 va_7 kv_7 .byte (16 : Int32) [(.int 0), (.int 0)] (.int (0 : Int32)) := (p7_10.keep K10 (ninS nq15 nin0))
      have oe17 : Old Z n0 h10 := (Old.keep oe8 K10 (allS gf7_0 all0))
      have sz18 : h0.size ≤ h10.size := (Nat.le_trans sz9 K10.1)
      obtain ⟨cq19, kq19, q19a, q19b, q19c⟩ := isOf hZ e10 f11
      obtain ⟨_, _, ⟨T19, L19, kk19, nn19⟩, -, X19, ⟨Lc19, hQ19, lq19, yq19, zq19⟩, st19⟩ := X10.virtualBack hx (y := mn18) (z := mn18) hown (mvT hZ (w109 hw)) (mvT hZ (w110 hw)) (nf_same (y := mn18) (y' := mn3) (a0 := #[]) rfl (mvT hZ (w34 hw)) (notFace_of_selects (args := #[]) (mvT hZ (w35 hw)))) (mvT hZ (w112 hw)) (mvT hZ (w111 hw)) (by decide) (backOf (W := 0) (rm_start l Z a0 hw [] b3 sb_7 va_7 kv_7 (0 : Int32) (0 : Int32) (0 : Int32) G1 h10 n0 (Nat.le_trans Z0 sz18) f11 f13 f14 p10_6 p10_7 p10_8 p10_9 p10_10 f16 gf7_0 gf7_1 g_b3 CS CSn oe17) hZ (w113 hw) (w3 hw) (by decide) (by decide)) q19a q19c (g := (mkF m 77 #[iv p0, iv p1, iv p2, iv 0, iv vs_, iv q1, iv q2, iv (48 + q1), iv (48 + q2), rv b3, rv sa_10, .unset, .unset, .unset, .unset, .unset] [(.ref b3)])) rfl (by rw [hml]; rfl) (Steps.refl _) (argsL := []) (rest := []) (lenOf pd_15 rfl) rfl (by show 2 * 0 + _ ≤ _; exact Nat.le_of_eq rfl) (hb hby at_77) (fun _ _ => ⟨rfl, e10, (by decide : 5 + 0 ≤ _), (by decide : 26 + 0 ≤ _)⟩)
      dsimp only [Pt.U, Pt.locs, Pt.cells, Pt.slots] at X19 lq19 yq19 zq19 st19 hQ19
      subst lq19 yq19 zq19
      obtain ⟨h19, e19⟩ : ∃ z, T19.heap = z := ⟨_, rfl⟩
      rw [e19] at hQ19
      obtain ⟨rfl, N19q, K19, p19_0, p19_1, p19_2, p19_3, p19_4, p19_5, p19_6, p19_7, p19_8⟩ := hQ19
      have N19 := Fr.app N10 N19q
      refine go_tr st19 ?_
      show Go _ _ _ _ (T19.setTop (mkF m 80 #[iv p0, iv p1, iv p2, iv 0, iv vs_, iv q1, iv q2, iv (48 + q1), iv (48 + q2), rv b3, rv sa_10, .unset, .unset, .unset, .unset, .unset] [(.ref b3)]))
      refine go_st (fun t k => XS.pop X19.here hx rfl (hb hby at_80) rfl rfl k) ?_
      refine go_st (fun t k => XS.iloadN X19.here hx rfl (hb hby at_81) rfl k) ?_
      show Go _ _ _ _ (T19.setTop (mkF m 82 #[iv p0, iv p1, iv p2, iv 0, iv vs_, iv q1, iv q2, iv (48 + q1), iv (48 + q2), rv b3, rv sa_10, .unset, .unset, .unset, .unset, .unset] [(.int 0)]))
      refine go_st (fun t k => XS.ifYes X19.here hx rfl (pc0 := 82) (pc' := 94) rfl (hb hby at_82) rfl ((if0 _ _).trans (teq ((by decide) : (0 : Int32) = (0 : Int32))).1) (by decide) (by decide) k) ?_
      show Go _ _ _ _ (T19.setTop (mkF m 94 #[iv p0, iv p1, iv p2, iv 0, iv vs_, iv q1, iv q2, iv (48 + q1), iv (48 + q2), rv b3, rv sa_10, .unset, .unset, .unset, .unset, .unset] []))
      refine go_st (fun t k => XS.aload X19.here hx rfl (hb hby at_94) rfl rfl k) ?_
      show Go _ _ _ _ (T19.setTop (mkF m 96 #[iv p0, iv p1, iv p2, iv 0, iv vs_, iv q1, iv q2, iv (48 + q1), iv (48 + q2), rv b3, rv sa_10, .unset, .unset, .unset, .unset, .unset] [(.ref b3)]))
      have oe20 : Old Z n0 h19 := (Old.keep oe17 K19 (allS gf7_0 (allS gf7_1 (allS g_b3 all0))))
      have sz21 : h0.size ≤ h19.size := (Nat.le_trans sz18 K19.1)
      obtain ⟨cq22, kq22, q22a, q22b, q22c⟩ := isOf hZ e19 p19_0
      obtain ⟨_, _, ⟨T22, L22, kk22, nn22⟩, -, X22, ⟨Lc22, hQ22, lq22, yq22, zq22⟩, st22⟩ := X19.virtualBack hx (y := mn3) (z := mn3) hown (mvT hZ (w32 hw)) (mvT hZ (w33 hw)) (notFace_of_selects (args := #[]) (mvT hZ (w35 hw))) (mvT hZ (w35 hw)) (mvT hZ (w34 hw)) (by decide) (backOf (W := 0) (rm_drain1 l Z a0 hw [] b3 sb_7 va_7 kv_7 (nar .byte ((91 : Int32).toInt8.toInt32)) (0 : Int32) (0 : Int32) G1 h19 n0 (Nat.le_trans Z0 sz21) p19_0 p19_1 p19_3 p19_4 p19_5 p19_6 p19_7 p19_8 gf7_0 CS CSn oe20) hZ (w36 hw) (w3 hw) (by decide) (by decide)) q22a q22c (g := (mkF m 96 #[iv p0, iv p1, iv p2, iv 0, iv vs_, iv q1, iv q2, iv (48 + q1), iv (48 + q2), rv b3, rv sa_10, .unset, .unset, .unset, .unset, .unset] [(.ref b3)])) rfl (by rw [hml]; rfl) (Steps.refl _) (argsL := []) (rest := []) (lenOf pd_10 rfl) rfl (by show 2 * 0 + _ ≤ _; exact Nat.le_of_eq rfl) (hb hby at_96) (fun _ _ => ⟨rfl, e19, (by decide : 5 + 2 ≤ _), (by decide : 26 + 5 ≤ _)⟩)
      dsimp only [Pt.U, Pt.locs, Pt.cells, Pt.slots] at X22 lq22 yq22 zq22 st22 hQ22
      subst lq22 yq22 zq22
      obtain ⟨h22, e22⟩ : ∃ z, T22.heap = z := ⟨_, rfl⟩
      rw [e22] at hQ22
      obtain ⟨sa_22, ta_22, kt_22, rfl, N22q, K22, gf22_0, lf22_0, gf22_1, lf22_1, p22_2, p22_3, p22_4, p22_5, p22_6, p22_7, p22_8, p22_9, p22_10⟩ := hQ22
      have N22 := Fr.app N19 N22q
      refine go_tr st22 ?_
      refine go_st (fun t k => XS.astore X22.here hx rfl (hb hby at_99) rfl rfl (l' := #[iv p0, iv p1, iv p2, iv 0, iv vs_, iv q1, iv q2, iv (48 + q1), iv (48 + q2), rv b3, rv sa_10, rv sa_22, .unset, .unset, .unset, .unset]) rfl k) ?_
      refine go_st (fun t k => XS.iload X22.here hx rfl (hb hby at_101) rfl k) ?_
      show Go _ _ _ _ (T22.setTop (mkF m 103 #[iv p0, iv p1, iv p2, iv 0, iv vs_, iv q1, iv q2, iv (48 + q1), iv (48 + q2), rv b3, rv sa_10, rv sa_22, .unset, .unset, .unset, .unset] [(.int vs_)]))
      rcases hvs with rfl | rfl
      · skip
        show Go _ _ _ _ (T22.setTop (mkF m 103 #[iv p0, iv p1, iv p2, iv 0, iv 0, iv q1, iv q2, iv (48 + q1), iv (48 + q2), rv b3, rv sa_10, rv sa_22, .unset, .unset, .unset, .unset] [(.int 0)]))
        refine go_st (fun t k => XS.ifYes X22.here hx rfl (pc0 := 103) (pc' := 118) rfl (hb hby at_103) rfl ((if0 _ _).trans (teq ((by decide) : (0 : Int32) = (0 : Int32))).1) (by decide) (by decide) k) ?_
        show Go _ _ _ _ (T22.setTop (mkF m 118 #[iv p0, iv p1, iv p2, iv 0, iv 0, iv q1, iv q2, iv (48 + q1), iv (48 + q2), rv b3, rv sa_10, rv sa_22, .unset, .unset, .unset, .unset] []))
        refine go_st (fun t k => XS.aload X22.here hx rfl (hb hby at_118) rfl rfl k) ?_
        show Go _ _ _ _ (T22.setTop (mkF m 120 #[iv p0, iv p1, iv p2, iv 0, iv 0, iv q1, iv q2, iv (48 + q1), iv (48 + q2), rv b3, rv sa_10, rv sa_22, .unset, .unset, .unset, .unset] [(.ref b3)]))
        have f23 : Exa Z h22 b3 cJW := (p19_0.keep K22)
        have f24 : Fld Z h22 b3 cJW "text" "Ljava/lang/StringBuilder;" (.ref sb_7) := (p19_1.keep K22 (ninS nq12 nin0))
        have f25 : Fld Z h22 b3 cJW "afterValue" "Z" (.int 0) := (p19_2.keep K22 (ninS nq12 nin0))
        have f26 : Arv Z h22 va_7 kv_7 .byte (16 : Int32) [(.int (nar .byte ((91 : Int32).toInt8.toInt32))), (.int 0)] (.int (0 : Int32)) := (p19_8.keep K22 (ninS nq15 nin0))
        have oe27 : Old Z n0 h22 := (Old.keep oe20 K22 (allS gf7_0 all0))
        have sz28 : h0.size ≤ h22.size := (Nat.le_trans sz21 K22.1)
        obtain ⟨cq29, kq29, q29a, q29b, q29c⟩ := isOf hZ e22 f23
        obtain ⟨_, _, ⟨T29, L29, kk29, nn29⟩, -, X29, ⟨Lc29, hQ29, lq29, yq29, zq29⟩, st29⟩ := X22.virtualBack hx (y := mn24) (z := mn24) hown (mvT hZ (w140 hw)) (mvT hZ (w141 hw)) (nf_same (y := mn24) (y' := mn3) (a0 := #[]) rfl (mvT hZ (w34 hw)) (notFace_of_selects (args := #[]) (mvT hZ (w35 hw)))) (mvT hZ (w143 hw)) (mvT hZ (w142 hw)) (by decide) (backOf (W := 0) (rm_end l Z a0 hw [] b3 (0 : Int32) sb_7 va_7 kv_7 (nar .byte ((91 : Int32).toInt8.toInt32)) (0 : Int32) (1 : Int32) G1 h22 n0 (Nat.le_trans Z0 sz28) f23 f24 f25 p22_6 p22_7 p22_8 p22_9 p22_10 f26 gf7_0 gf7_1 g_b3 CS CSn oe27) hZ (w144 hw) (w3 hw) (by decide) (by decide)) q29a q29c (g := (mkF m 120 #[iv p0, iv p1, iv p2, iv 0, iv 0, iv q1, iv q2, iv (48 + q1), iv (48 + q2), rv b3, rv sa_10, rv sa_22, .unset, .unset, .unset, .unset] [(.ref b3)])) rfl (by rw [hml]; rfl) (Steps.refl _) (argsL := []) (rest := []) (lenOf pd_15 rfl) rfl (by show 2 * 0 + _ ≤ _; exact Nat.le_of_eq rfl) (hb hby at_120) (fun _ _ => ⟨rfl, e22, (by decide : 7 + 0 ≤ _), (by decide : 31 + 0 ≤ _)⟩)
        dsimp only [Pt.U, Pt.locs, Pt.cells, Pt.slots] at X29 lq29 yq29 zq29 st29 hQ29
        subst lq29 yq29 zq29
        obtain ⟨h29, e29⟩ : ∃ z, T29.heap = z := ⟨_, rfl⟩
        rw [e29] at hQ29
        obtain ⟨rfl, N29q, K29, p29_0, p29_1, p29_2, p29_3, p29_4, p29_5, p29_6, p29_7, p29_8⟩ := hQ29
        have N29 := Fr.app N22 N29q
        refine go_tr st29 ?_
        show Go _ _ _ _ (T29.setTop (mkF m 123 #[iv p0, iv p1, iv p2, iv 0, iv 0, iv q1, iv q2, iv (48 + q1), iv (48 + q2), rv b3, rv sa_10, rv sa_22, .unset, .unset, .unset, .unset] [(.ref b3)]))
        refine go_st (fun t k => XS.pop X29.here hx rfl (hb hby at_123) rfl rfl k) ?_
        refine go_st (fun t k => XS.aload X29.here hx rfl (hb hby at_124) rfl rfl k) ?_
        show Go _ _ _ _ (T29.setTop (mkF m 126 #[iv p0, iv p1, iv p2, iv 0, iv 0, iv q1, iv q2, iv (48 + q1), iv (48 + q2), rv b3, rv sa_10, rv sa_22, .unset, .unset, .unset, .unset] [(.ref b3)]))
        have oe30 : Old Z n0 h29 := (Old.keep oe27 K29 (allS gf7_0 (allS gf7_1 (allS g_b3 all0))))
        have sz31 : h0.size ≤ h29.size := (Nat.le_trans sz28 K29.1)
        obtain ⟨cq32, kq32, q32a, q32b, q32c⟩ := isOf hZ e29 p29_0
        obtain ⟨_, _, ⟨T32, L32, kk32, nn32⟩, -, X32, ⟨Lc32, hQ32, lq32, yq32, zq32⟩, st32⟩ := X29.virtualBack hx (y := mn3) (z := mn3) hown (mvT hZ (w32 hw)) (mvT hZ (w33 hw)) (notFace_of_selects (args := #[]) (mvT hZ (w35 hw))) (mvT hZ (w35 hw)) (mvT hZ (w34 hw)) (by decide) (backOf (W := 0) (rm_drain1 l Z a0 hw [] b3 sb_7 va_7 kv_7 (nar .byte ((93 : Int32).toInt8.toInt32)) (0 : Int32) (1 : Int32) G1 h29 n0 (Nat.le_trans Z0 sz31) p29_0 p29_1 p29_3 p29_4 p29_5 p29_6 p29_7 p29_8 gf7_0 CS CSn oe30) hZ (w36 hw) (w3 hw) (by decide) (by decide)) q32a q32c (g := (mkF m 126 #[iv p0, iv p1, iv p2, iv 0, iv 0, iv q1, iv q2, iv (48 + q1), iv (48 + q2), rv b3, rv sa_10, rv sa_22, .unset, .unset, .unset, .unset] [(.ref b3)])) rfl (by rw [hml]; rfl) (Steps.refl _) (argsL := []) (rest := []) (lenOf pd_10 rfl) rfl (by show 2 * 0 + _ ≤ _; exact Nat.le_of_eq rfl) (hb hby at_126) (fun _ _ => ⟨rfl, e29, (by decide : 7 + 2 ≤ _), (by decide : 31 + 5 ≤ _)⟩)
        dsimp only [Pt.U, Pt.locs, Pt.cells, Pt.slots] at X32 lq32 yq32 zq32 st32 hQ32
        subst lq32 yq32 zq32
        obtain ⟨h32, e32⟩ : ∃ z, T32.heap = z := ⟨_, rfl⟩
        rw [e32] at hQ32
        obtain ⟨sa_32, ta_32, kt_32, rfl, N32q, K32, gf32_0, lf32_0, gf32_1, lf32_1, p32_2, p32_3, p32_4, p32_5, p32_6, p32_7, p32_8, p32_9, p32_10⟩ := hQ32
        have N32 := Fr.app N29 N32q
        refine go_tr st32 ?_
        refine go_st (fun t k => XS.astore X32.here hx rfl (hb hby at_129) rfl rfl (l' := #[iv p0, iv p1, iv p2, iv 0, iv 0, iv q1, iv q2, iv (48 + q1), iv (48 + q2), rv b3, rv sa_10, rv sa_22, rv sa_32, .unset, .unset, .unset]) rfl k) ?_
        refine go_st (fun t k => XS.aload X32.here hx rfl (hb hby at_131) rfl rfl k) ?_
        show Go _ _ _ _ (T32.setTop (mkF m 133 #[iv p0, iv p1, iv p2, iv 0, iv 0, iv q1, iv q2, iv (48 + q1), iv (48 + q2), rv b3, rv sa_10, rv sa_22, rv sa_32, .unset, .unset, .unset] [(.ref b3)]))
        have f33 : Exa Z h32 b3 cJW := (p29_0.keep K32)
        have f34 : Fld Z h32 b3 cJW "text" "Ljava/lang/StringBuilder;" (.ref sb_7) := (p29_1.keep K32 (ninS nq12 nin0))
        have f35 : Arv Z h32 va_7 kv_7 .byte (16 : Int32) [(.int (nar .byte ((93 : Int32).toInt8.toInt32))), (.int 0)] (.int (0 : Int32)) := (p29_8.keep K32 (ninS nq15 nin0))
        have oe36 : Old Z n0 h32 := (Old.keep oe30 K32 (allS gf7_0 all0))
        have sz37 : h0.size ≤ h32.size := (Nat.le_trans sz31 K32.1)
        obtain ⟨cq38, kq38, q38a, q38b, q38c⟩ := isOf hZ e32 f33
        obtain ⟨_, _, ⟨T38, L38, kk38, nn38⟩, -, X38, ⟨Lc38, hQ38, lq38, yq38, zq38⟩, st38⟩ := X32.virtualBack hx (y := mn3) (z := mn3) hown (mvT hZ (w32 hw)) (mvT hZ (w33 hw)) (notFace_of_selects (args := #[]) (mvT hZ (w35 hw))) (mvT hZ (w35 hw)) (mvT hZ (w34 hw)) (by decide) (backOf (W := 0) (rm_drain0 l Z a0 hw [] b3 sb_7 va_7 kv_7 (nar .byte ((93 : Int32).toInt8.toInt32)) (0 : Int32) (1 : Int32) G1 h32 n0 (Nat.le_trans Z0 sz37) f33 f34 p32_6 p32_7 p32_8 p32_9 p32_10 f35 gf7_0 CS CSn oe36) hZ (w36 hw) (w3 hw) (by decide) (by decide)) q38a q38c (g := (mkF m 133 #[iv p0, iv p1, iv p2, iv 0, iv 0, iv q1, iv q2, iv (48 + q1), iv (48 + q2), rv b3, rv sa_10, rv sa_22, rv sa_32, .unset, .unset, .unset] [(.ref b3)])) rfl (by rw [hml]; rfl) (Steps.refl _) (argsL := []) (rest := []) (lenOf pd_10 rfl) rfl (by show 2 * 0 + _ ≤ _; exact Nat.le_of_eq rfl) (hb hby at_133) (fun _ _ => ⟨rfl, e32, (by decide : 9 + 2 ≤ _), (by decide : 36 + 4 ≤ _)⟩)
        dsimp only [Pt.U, Pt.locs, Pt.cells, Pt.slots] at X38 lq38 yq38 zq38 st38 hQ38
        subst lq38 yq38 zq38
        obtain ⟨h38, e38⟩ : ∃ z, T38.heap = z := ⟨_, rfl⟩
        rw [e38] at hQ38
        obtain ⟨sa_38, ta_38, kt_38, rfl, N38q, K38, gf38_0, lf38_0, gf38_1, lf38_1, p38_2, p38_3, p38_4, p38_5, p38_6, p38_7, p38_8, p38_9, p38_10⟩ := hQ38
        have N38 := Fr.app N32 N38q
        refine go_tr st38 ?_
        refine go_st (fun t k => XS.astore X38.here hx rfl (hb hby at_136) rfl rfl (l' := #[iv p0, iv p1, iv p2, iv 0, iv 0, iv q1, iv q2, iv (48 + q1), iv (48 + q2), rv b3, rv sa_10, rv sa_22, rv sa_32, rv sa_38, .unset, .unset]) rfl k) ?_
        refine go_st (fun t k => XS.iloadN X38.here hx rfl (hb hby at_138) rfl k) ?_
        show Go _ _ _ _ (T38.setTop (mkF m 139 #[iv p0, iv p1, iv p2, iv 0, iv 0, iv q1, iv q2, iv (48 + q1), iv (48 + q2), rv b3, rv sa_10, rv sa_22, rv sa_32, rv sa_38, .unset, .unset] [(.int 0)]))
        refine go_st (fun t k => XS.ifYes X38.here hx rfl (pc0 := 139) (pc' := 167) rfl (hb hby at_139) rfl ((if0 _ _).trans (teq ((by decide) : (0 : Int32) = (0 : Int32))).1) (by decide) (by decide) k) ?_
        show Go _ _ _ _ (T38.setTop (mkF m 167 #[iv p0, iv p1, iv p2, iv 0, iv 0, iv q1, iv q2, iv (48 + q1), iv (48 + q2), rv b3, rv sa_10, rv sa_22, rv sa_32, rv sa_38, .unset, .unset] []))
        refine go_st (fun t k => XS.bipush X38.here hx rfl (hb hby at_167) k) ?_
        show Go _ _ _ _ (T38.setTop (mkF m 169 #[iv p0, iv p1, iv p2, iv 0, iv 0, iv q1, iv q2, iv (48 + q1), iv (48 + q2), rv b3, rv sa_10, rv sa_22, rv sa_32, rv sa_38, .unset, .unset] [(.int 91)]))
        have oe39 : Old Z n0 h38 := (Old.keep oe36 K38 (allS gf7_0 all0))
        have sz40 : h0.size ≤ h38.size := (Nat.le_trans sz37 K38.1)
        obtain ⟨_, _, ⟨T41, L41, kk41, nn41⟩, -, X41, ⟨Lc41, hQ41, lq41, yq41, zq41⟩, st41⟩ := Jvm.LawKit.callS X38 hx (y := mn26) hown (mvT hZ (w149 hw)) (mvT hZ (w150 hw)) (mvT hZ (w24 hw)) (mvT hZ (w151 hw)) (by decide) (backOf (W := 0) (rm_vof l Z a0 hw [] (91 : Int32) G1 h38 n0 (Nat.le_trans Z0 sz40) (by decide) CS CSn oe39) hZ (w151 hw) (w24 hw) (by decide) (by decide)) (g := (mkF m 169 #[iv p0, iv p1, iv p2, iv 0, iv 0, iv q1, iv q2, iv (48 + q1), iv (48 + q2), rv b3, rv sa_10, rv sa_22, rv sa_32, rv sa_38, .unset, .unset] [(.int 91)])) rfl (by rw [hml]; rfl) (argsL := [(.int 91)]) (rest := []) (lenOf pd_18 rfl) rfl (by show 2 * 0 + _ ≤ _; exact Nat.le_of_eq rfl) (hb hby at_169) (fun _ _ => ⟨rfl, e38, (by decide : 11 + 2 ≤ _), (by decide : 40 + 5 ≤ _)⟩)
        dsimp only [Pt.U, Pt.locs, Pt.cells, Pt.slots] at X41 lq41 yq41 zq41 st41 hQ41
        subst lq41 yq41 zq41
        obtain ⟨h41, e41⟩ : ∃ z, T41.heap = z := ⟨_, rfl⟩
        rw [e41] at hQ41
        obtain ⟨sa_41, ta_41, kt_41, rfl, N41q, K41, gf41_0, lf41_0, gf41_1, lf41_1, p41_2, p41_3, p41_4, p41_5⟩ := hQ41
        have N41 := Fr.app N38 N41q
        refine go_st st41 ?_
        refine go_st (fun t k => XS.astore X41.here hx rfl (hb hby at_172) rfl rfl (l' := #[iv p0, iv p1, iv p2, iv 0, iv 0, iv q1, iv q2, iv (48 + q1), iv (48 + q2), rv b3, rv sa_10, rv sa_22, rv sa_32, rv sa_38, rv sa_41, .unset]) rfl k) ?_
        refine go_st (fun t k => XS.iload X41.here hx rfl (hb hby at_174) rfl k) ?_
        show Go _ _ _ _ (T41.setTop (mkF m 176 #[iv p0, iv p1, iv p2, iv 0, iv 0, iv q1, iv q2, iv (48 + q1), iv (48 + q2), rv b3, rv sa_10, rv sa_22, rv sa_32, rv sa_38, rv sa_41, .unset] [(.int 0)]))
        refine go_st (fun t k => XS.ifYes X41.here hx rfl (pc0 := 176) (pc' := 218) rfl (hb hby at_176) rfl ((if0 _ _).trans (teq ((by decide) : (0 : Int32) = (0 : Int32))).1) (by decide) (by decide) k) ?_
        show Go _ _ _ _ (T41.setTop (mkF m 218 #[iv p0, iv p1, iv p2, iv 0, iv 0, iv q1, iv q2, iv (48 + q1), iv (48 + q2), rv b3, rv sa_10, rv sa_22, rv sa_32, rv sa_38, rv sa_41, .unset] []))
        refine go_st (fun t k => XS.bipush X41.here hx rfl (hb hby at_218) k) ?_
        show Go _ _ _ _ (T41.setTop (mkF m 220 #[iv p0, iv p1, iv p2, iv 0, iv 0, iv q1, iv q2, iv (48 + q1), iv (48 + q2), rv b3, rv sa_10, rv sa_22, rv sa_32, rv sa_38, rv sa_41, .unset] [(.int 93)]))
        have oe42 : Old Z n0 h41 := (Old.keep oe39 K41 all0)
        have sz43 : h0.size ≤ h41.size := (Nat.le_trans sz40 K41.1)
        obtain ⟨_, _, ⟨T44, L44, kk44, nn44⟩, -, X44, ⟨Lc44, hQ44, lq44, yq44, zq44⟩, st44⟩ := Jvm.LawKit.callS X41 hx (y := mn26) hown (mvT hZ (w149 hw)) (mvT hZ (w150 hw)) (mvT hZ (w24 hw)) (mvT hZ (w151 hw)) (by decide) (backOf (W := 0) (rm_vof l Z a0 hw [] (93 : Int32) G1 h41 n0 (Nat.le_trans Z0 sz43) (by decide) CS CSn oe42) hZ (w151 hw) (w24 hw) (by decide) (by decide)) (g := (mkF m 220 #[iv p0, iv p1, iv p2, iv 0, iv 0, iv q1, iv q2, iv (48 + q1), iv (48 + q2), rv b3, rv sa_10, rv sa_22, rv sa_32, rv sa_38, rv sa_41, .unset] [(.int 93)])) rfl (by rw [hml]; rfl) (argsL := [(.int 93)]) (rest := []) (lenOf pd_18 rfl) rfl (by show 2 * 0 + _ ≤ _; exact Nat.le_of_eq rfl) (hb hby at_220) (fun _ _ => ⟨rfl, e41, (by decide : 13 + 2 ≤ _), (by decide : 45 + 5 ≤ _)⟩)
        dsimp only [Pt.U, Pt.locs, Pt.cells, Pt.slots] at X44 lq44 yq44 zq44 st44 hQ44
        subst lq44 yq44 zq44
        obtain ⟨h44, e44⟩ : ∃ z, T44.heap = z := ⟨_, rfl⟩
        rw [e44] at hQ44
        obtain ⟨sa_44, ta_44, kt_44, rfl, N44q, K44, gf44_0, lf44_0, gf44_1, lf44_1, p44_2, p44_3, p44_4, p44_5⟩ := hQ44
        have N44 := Fr.app N41 N44q
        refine go_st st44 ?_
        refine go_st (fun t k => XS.astore X44.here hx rfl (hb hby at_223) rfl rfl (l' := #[iv p0, iv p1, iv p2, iv 0, iv 0, iv q1, iv q2, iv (48 + q1), iv (48 + q2), rv b3, rv sa_10, rv sa_22, rv sa_32, rv sa_38, rv sa_41, rv sa_44]) rfl k) ?_
        refine go_st (fun t k => XS.aload X44.here hx rfl (hb hby at_225) rfl rfl k) ?_
        show Go _ _ _ _ (T44.setTop (mkF m 227 #[iv p0, iv p1, iv p2, iv 0, iv 0, iv q1, iv q2, iv (48 + q1), iv (48 + q2), rv b3, rv sa_10, rv sa_22, rv sa_32, rv sa_38, rv sa_41, rv sa_44] [(.ref sa_10)]))
        have f45 : Exa Z h44 sa_10 cST := (((((((p10_2.keep K19).keep K22).keep K29).keep K32).keep K38).keep K41).keep K44)
        have nq46 : b3 ≠ sa_10 := Nat.ne_of_lt (Nat.lt_of_lt_of_le (Nat.lt_of_lt_of_le A3.lt K7.1) lf10_0)
        have nq47 : va_7 ≠ sa_10 := Nat.ne_of_lt (Nat.lt_of_lt_of_le (Nat.lt_of_lt_of_le p7_10.lt (Nat.le_refl _)) lf10_0)
        have nq48 : sb_7 ≠ sa_10 := Nat.ne_of_lt (Nat.lt_of_lt_of_le (Nat.lt_of_lt_of_le p7_5.lt (Nat.le_refl _)) lf10_0)
        have f49 : Fld Z h44 sa_10 cST "value" "[B" (.ref ta_10) := (((((((p10_3.keep K19 (ninS (Ne.symm nq48) (ninS (Ne.symm nq47) (ninS (Ne.symm nq46) nin0)))).keep K22 (ninS (Ne.symm nq48) nin0)).keep K29 (ninS (Ne.symm nq48) (ninS (Ne.symm nq47) (ninS (Ne.symm nq46) nin0)))).keep K32 (ninS (Ne.symm nq48) nin0)).keep K38 (ninS (Ne.symm nq48) nin0)).keep K41 nin0).keep K44 nin0)
        have f50 : Fld Z h44 sa_10 cST "coder" "B" (.int 0) := (((((((p10_4.keep K19 (ninS (Ne.symm nq48) (ninS (Ne.symm nq47) (ninS (Ne.symm nq46) nin0)))).keep K22 (ninS (Ne.symm nq48) nin0)).keep K29 (ninS (Ne.symm nq48) (ninS (Ne.symm nq47) (ninS (Ne.symm nq46) nin0)))).keep K32 (ninS (Ne.symm nq48) nin0)).keep K38 (ninS (Ne.symm nq48) nin0)).keep K41 nin0).keep K44 nin0)
        have nq51 : b3 ≠ ta_10 := Nat.ne_of_lt (Nat.lt_of_lt_of_le (Nat.lt_of_lt_of_le A3.lt K7.1) lf10_1)
        have nq52 : va_7 ≠ ta_10 := Nat.ne_of_lt (Nat.lt_of_lt_of_le (Nat.lt_of_lt_of_le p7_10.lt (Nat.le_refl _)) lf10_1)
        have nq53 : sb_7 ≠ ta_10 := Nat.ne_of_lt (Nat.lt_of_lt_of_le (Nat.lt_of_lt_of_le p7_5.lt (Nat.le_refl _)) lf10_1)
        have f54 : Arv Z h44 ta_10 kt_10 .byte (0 : Int32) [] (.int (0 : Int32)) := (((((((p10_5.keep K19 (ninS (Ne.symm nq53) (ninS (Ne.symm nq52) (ninS (Ne.symm nq51) nin0)))).keep K22 (ninS (Ne.symm nq53) nin0)).keep K29 (ninS (Ne.symm nq53) (ninS (Ne.symm nq52) (ninS (Ne.symm nq51) nin0)))).keep K32 (ninS (Ne.symm nq53) nin0)).keep K38 (ninS (Ne.symm nq53) nin0)).keep K41 nin0).keep K44 nin0)
        have oe55 : Old Z n0 h44 := (Old.keep oe42 K44 all0)
        have sz56 : h0.size ≤ h44.size := (Nat.le_trans sz43 K44.1)
        obtain ⟨cq57, kq57, q57a, q57b, q57c⟩ := isOf hZ e44 f45
        obtain ⟨_, _, ⟨T57, L57, kk57, nn57⟩, -, X57, ⟨Lc57, hQ57, lq57, yq57, zq57⟩, st57⟩ := X44.virtualBack hx (y := mn29) (z := mn29) hown (mvT hZ (w161 hw)) (mvT hZ (w162 hw)) (notFace_of_selects (args := #[]) (mvT hZ (w164 hw))) (mvT hZ (w164 hw)) (mvT hZ (w163 hw)) (by decide) (backOf (W := 0) (rm_sisEmpty0 l Z a0 hw [] sa_10 ta_10 kt_10 G1 h44 n0 (Nat.le_trans Z0 sz56) f45 f49 f50 f54 CS CSn oe55) hZ (w165 hw) (w24 hw) (by decide) (by decide)) q57a q57c (g := (mkF m 227 #[iv p0, iv p1, iv p2, iv 0, iv 0, iv q1, iv q2, iv (48 + q1), iv (48 + q2), rv b3, rv sa_10, rv sa_22, rv sa_32, rv sa_38, rv sa_41, rv sa_44] [(.ref sa_10)])) rfl (by rw [hml]; rfl) (Steps.refl _) (argsL := []) (rest := []) (lenOf pd_4 rfl) rfl (by show 2 * 0 + _ ≤ _; exact Nat.le_of_eq rfl) (hb hby at_227) (fun _ _ => ⟨rfl, e44, (by decide : 15 + 0 ≤ _), (by decide : 50 + 0 ≤ _)⟩)
        dsimp only [Pt.U, Pt.locs, Pt.cells, Pt.slots] at X57 lq57 yq57 zq57 st57 hQ57
        subst lq57 yq57 zq57
        obtain ⟨h57, e57⟩ : ∃ z, T57.heap = z := ⟨_, rfl⟩
        rw [e57] at hQ57
        obtain ⟨rfl, N57q, he57⟩ := hQ57
        have N57 := Fr.app N44 N57q
        rw [he57] at e57
        refine go_tr st57 ?_
        show Go _ _ _ _ (T57.setTop (mkF m 230 #[iv p0, iv p1, iv p2, iv 0, iv 0, iv q1, iv q2, iv (48 + q1), iv (48 + q2), rv b3, rv sa_10, rv sa_22, rv sa_32, rv sa_38, rv sa_41, rv sa_44] [(.int 1)]))
        refine go_st (fun t k => XS.ifNo X57.here hx rfl (hb hby at_230) rfl ((if0 _ _).trans (feq ((by decide) : ¬ ((1 : Int32) = (0 : Int32)))).1) k) ?_
        show Go _ _ _ _ (T57.setTop (mkF m 233 #[iv p0, iv p1, iv p2, iv 0, iv 0, iv q1, iv q2, iv (48 + q1), iv (48 + q2), rv b3, rv sa_10, rv sa_22, rv sa_32, rv sa_38, rv sa_41, rv sa_44] []))
        refine go_st (fun t k => XS.aload X57.here hx rfl (hb hby at_233) rfl rfl k) ?_
        refine go_st (fun t k => XS.aload X57.here hx rfl (hb hby at_235) rfl rfl k) ?_
        show Go _ _ _ _ (T57.setTop (mkF m 237 #[iv p0, iv p1, iv p2, iv 0, iv 0, iv q1, iv q2, iv (48 + q1), iv (48 + q2), rv b3, rv sa_10, rv sa_22, rv sa_32, rv sa_38, rv sa_41, rv sa_44] [(.ref sa_41), (.ref sa_22)]))
        have f58 : Exa Z h44 sa_22 cST := (((((p22_2.keep K29).keep K32).keep K38).keep K41).keep K44)
        have sz59 : h3.size ≤ h10.size := (Nat.le_trans K7.1 K10.1)
        have sz60 : h3.size ≤ h19.size := (Nat.le_trans sz59 K19.1)
        have nq61 : b3 ≠ sa_22 := Nat.ne_of_lt (Nat.lt_of_lt_of_le (Nat.lt_of_lt_of_le A3.lt sz60) lf22_0)
        have sz62 : h7.size ≤ h19.size := (Nat.le_trans K10.1 K19.1)
        have nq63 : va_7 ≠ sa_22 := Nat.ne_of_lt (Nat.lt_of_lt_of_le (Nat.lt_of_lt_of_le p7_10.lt sz62) lf22_0)
        have nq64 : sb_7 ≠ sa_22 := Nat.ne_of_lt (Nat.lt_of_lt_of_le (Nat.lt_of_lt_of_le p7_5.lt sz62) lf22_0)
        have f65 : Fld Z h44 sa_22 cST "value" "[B" (.ref ta_22) := (((((p22_3.keep K29 (ninS (Ne.symm nq64) (ninS (Ne.symm nq63) (ninS (Ne.symm nq61) nin0)))).keep K32 (ninS (Ne.symm nq64) nin0)).keep K38 (ninS (Ne.symm nq64) nin0)).keep K41 nin0).keep K44 nin0)
        have f66 : Fld Z h44 sa_22 cST "coder" "B" (.int 0) := (((((p22_4.keep K29 (ninS (Ne.symm nq64) (ninS (Ne.symm nq63) (ninS (Ne.symm nq61) nin0)))).keep K32 (ninS (Ne.symm nq64) nin0)).keep K38 (ninS (Ne.symm nq64) nin0)).keep K41 nin0).keep K44 nin0)
        have nq67 : b3 ≠ ta_22 := Nat.ne_of_lt (Nat.lt_of_lt_of_le (Nat.lt_of_lt_of_le A3.lt sz60) lf22_1)
        have nq68 : va_7 ≠ ta_22 := Nat.ne_of_lt (Nat.lt_of_lt_of_le (Nat.lt_of_lt_of_le p7_10.lt sz62) lf22_1)
        have nq69 : sb_7 ≠ ta_22 := Nat.ne_of_lt (Nat.lt_of_lt_of_le (Nat.lt_of_lt_of_le p7_5.lt sz62) lf22_1)
        have f70 : Arv Z h44 ta_22 kt_22 .byte (1 : Int32) [(.int (nar .byte ((91 : Int32).toInt8.toInt32)))] (.int (0 : Int32)) := (((((p22_5.keep K29 (ninS (Ne.symm nq69) (ninS (Ne.symm nq68) (ninS (Ne.symm nq67) nin0)))).keep K32 (ninS (Ne.symm nq69) nin0)).keep K38 (ninS (Ne.symm nq69) nin0)).keep K41 nin0).keep K44 nin0)
        have f71 : Exa Z h44 sa_41 cST := (p41_2.keep K44)
        have f72 : Fld Z h44 sa_41 cST "value" "[B" (.ref ta_41) := (p41_3.keep K44 nin0)
        have f73 : Fld Z h44 sa_41 cST "coder" "B" (.int 0) := (p41_4.keep K44 nin0)
        have f74 : Arv Z h44 ta_41 kt_41 .byte (1 : Int32) [(.int (nar .byte ((91 : Int32).toInt8.toInt32)))] (.int (0 : Int32)) := (p41_5.keep K44 nin0)
        have sz75 : h22.size ≤ h32.size := (Nat.le_trans K29.1 K32.1)
        have sz76 : h22.size ≤ h38.size := (Nat.le_trans sz75 K38.1)
        have nq77 : sa_22 ≠ sa_41 := Nat.ne_of_lt (Nat.lt_of_lt_of_le (Nat.lt_of_lt_of_le p22_2.lt sz76) lf41_0)
        obtain ⟨cq78, kq78, q78a, q78b, q78c⟩ := isOf hZ e57 f58
        obtain ⟨_, _, ⟨T78, L78, kk78, nn78⟩, -, X78, ⟨Lc78, hQ78, lq78, yq78, zq78⟩, st78⟩ := X57.virtualBack hx (y := mn30) (z := mn30) hown (mvT hZ (w166 hw)) (mvT hZ (w167 hw)) (nf_same (y := mn30) (y' := mn29) (a0 := #[]) rfl (mvT hZ (w163 hw)) (notFace_of_selects (args := #[]) (mvT hZ (w164 hw)))) (mvT hZ (w169 hw)) (mvT hZ (w168 hw)) (by decide) (backOf (W := 0) (rm_seq1 l Z a0 hw [] sa_22 ta_22 kt_22 (nar .byte ((91 : Int32).toInt8.toInt32)) sa_41 ta_41 kt_41 (nar .byte ((91 : Int32).toInt8.toInt32)) G1 h44 n0 (Nat.le_trans Z0 sz56) f58 f65 f66 f70 f71 f72 f73 f74 nq77 (by decide) CS CSn oe55) hZ (w170 hw) (w24 hw) (by decide) (by decide)) q78a q78c (g := (mkF m 237 #[iv p0, iv p1, iv p2, iv 0, iv 0, iv q1, iv q2, iv (48 + q1), iv (48 + q2), rv b3, rv sa_10, rv sa_22, rv sa_32, rv sa_38, rv sa_41, rv sa_44] [(.ref sa_41), (.ref sa_22)])) rfl (by rw [hml]; rfl) (Steps.refl _) (argsL := [(.ref sa_41)]) (rest := []) (lenOf pd_20 rfl) rfl (by show 2 * 0 + _ ≤ _; exact Nat.le_of_eq rfl) (hb hby at_237) (fun _ _ => ⟨rfl, e57, (by decide : 15 + 0 ≤ _), (by decide : 50 + 0 ≤ _)⟩)
        dsimp only [Pt.U, Pt.locs, Pt.cells, Pt.slots] at X78 lq78 yq78 zq78 st78 hQ78
        subst lq78 yq78 zq78
        obtain ⟨h78, e78⟩ : ∃ z, T78.heap = z := ⟨_, rfl⟩
        rw [e78] at hQ78
        obtain ⟨rfl, N78q, he78⟩ := hQ78
        have N78 := Fr.app N57 N78q
        rw [he78] at e78
        refine go_tr st78 ?_
        show Go _ _ _ _ (T78.setTop (mkF m 240 #[iv p0, iv p1, iv p2, iv 0, iv 0, iv q1, iv q2, iv (48 + q1), iv (48 + q2), rv b3, rv sa_10, rv sa_22, rv sa_32, rv sa_38, rv sa_41, rv sa_44] [(.int 1)]))
        refine go_st (fun t k => XS.ifNo X78.here hx rfl (hb hby at_240) rfl ((if0 _ _).trans (feq ((by decide) : ¬ ((1 : Int32) = (0 : Int32)))).1) k) ?_
        show Go _ _ _ _ (T78.setTop (mkF m 243 #[iv p0, iv p1, iv p2, iv 0, iv 0, iv q1, iv q2, iv (48 + q1), iv (48 + q2), rv b3, rv sa_10, rv sa_22, rv sa_32, rv sa_38, rv sa_41, rv sa_44] []))
        refine go_st (fun t k => XS.aload X78.here hx rfl (hb hby at_243) rfl rfl k) ?_
        refine go_st (fun t k => XS.aload X78.here hx rfl (hb hby at_245) rfl rfl k) ?_
        show Go _ _ _ _ (T78.setTop (mkF m 247 #[iv p0, iv p1, iv p2, iv 0, iv 0, iv q1, iv q2, iv (48 + q1), iv (48 + q2), rv b3, rv sa_10, rv sa_22, rv sa_32, rv sa_38, rv sa_41, rv sa_44] [(.ref sa_44), (.ref sa_32)]))
        have f79 : Exa Z h44 sa_32 cST := (((p32_2.keep K38).keep K41).keep K44)
        have sz80 : h7.size ≤ h22.size := (Nat.le_trans sz62 K22.1)
        have sz81 : h7.size ≤ h29.size := (Nat.le_trans sz80 K29.1)
        have nq82 : sb_7 ≠ sa_32 := Nat.ne_of_lt (Nat.lt_of_lt_of_le (Nat.lt_of_lt_of_le p7_5.lt sz81) lf32_0)
        have f83 : Fld Z h44 sa_32 cST "value" "[B" (.ref ta_32) := (((p32_3.keep K38 (ninS (Ne.symm nq82) nin0)).keep K41 nin0).keep K44 nin0)
        have f84 : Fld Z h44 sa_32 cST "coder" "B" (.int 0) := (((p32_4.keep K38 (ninS (Ne.symm nq82) nin0)).keep K41 nin0).keep K44 nin0)
        have nq85 : sb_7 ≠ ta_32 := Nat.ne_of_lt (Nat.lt_of_lt_of_le (Nat.lt_of_lt_of_le p7_5.lt sz81) lf32_1)
        have f86 : Arv Z h44 ta_32 kt_32 .byte (1 : Int32) [(.int (nar .byte ((93 : Int32).toInt8.toInt32)))] (.int (0 : Int32)) := (((p32_5.keep K38 (ninS (Ne.symm nq85) nin0)).keep K41 nin0).keep K44 nin0)
        have sz87 : h32.size ≤ h41.size := (Nat.le_trans K38.1 K41.1)
        have nq88 : sa_32 ≠ sa_44 := Nat.ne_of_lt (Nat.lt_of_lt_of_le (Nat.lt_of_lt_of_le p32_2.lt sz87) lf44_0)
        obtain ⟨cq89, kq89, q89a, q89b, q89c⟩ := isOf hZ e78 f79
        obtain ⟨_, _, ⟨T89, L89, kk89, nn89⟩, -, X89, ⟨Lc89, hQ89, lq89, yq89, zq89⟩, st89⟩ := X78.virtualBack hx (y := mn30) (z := mn30) hown (mvT hZ (w166 hw)) (mvT hZ (w167 hw)) (nf_same (y := mn30) (y' := mn29) (a0 := #[]) rfl (mvT hZ (w163 hw)) (notFace_of_selects (args := #[]) (mvT hZ (w164 hw)))) (mvT hZ (w169 hw)) (mvT hZ (w168 hw)) (by decide) (backOf (W := 0) (rm_seq1 l Z a0 hw [] sa_32 ta_32 kt_32 (nar .byte ((93 : Int32).toInt8.toInt32)) sa_44 ta_44 kt_44 (nar .byte ((93 : Int32).toInt8.toInt32)) G1 h44 n0 (Nat.le_trans Z0 sz56) f79 f83 f84 f86 p44_2 p44_3 p44_4 p44_5 nq88 (by decide) CS CSn oe55) hZ (w170 hw) (w24 hw) (by decide) (by decide)) q89a q89c (g := (mkF m 247 #[iv p0, iv p1, iv p2, iv 0, iv 0, iv q1, iv q2, iv (48 + q1), iv (48 + q2), rv b3, rv sa_10, rv sa_22, rv sa_32, rv sa_38, rv sa_41, rv sa_44] [(.ref sa_44), (.ref sa_32)])) rfl (by rw [hml]; rfl) (Steps.refl _) (argsL := [(.ref sa_44)]) (rest := []) (lenOf pd_20 rfl) rfl (by show 2 * 0 + _ ≤ _; exact Nat.le_of_eq rfl) (hb hby at_247) (fun _ _ => ⟨rfl, e78, (by decide : 15 + 0 ≤ _), (by decide : 50 + 0 ≤ _)⟩)
        dsimp only [Pt.U, Pt.locs, Pt.cells, Pt.slots] at X89 lq89 yq89 zq89 st89 hQ89
        subst lq89 yq89 zq89
        obtain ⟨h89, e89⟩ : ∃ z, T89.heap = z := ⟨_, rfl⟩
        rw [e89] at hQ89
        obtain ⟨rfl, N89q, he89⟩ := hQ89
        have N89 := Fr.app N78 N89q
        rw [he89] at e89
        refine go_tr st89 ?_
        show Go _ _ _ _ (T89.setTop (mkF m 250 #[iv p0, iv p1, iv p2, iv 0, iv 0, iv q1, iv q2, iv (48 + q1), iv (48 + q2), rv b3, rv sa_10, rv sa_22, rv sa_32, rv sa_38, rv sa_41, rv sa_44] [(.int 1)]))
        refine go_st (fun t k => XS.ifNo X89.here hx rfl (hb hby at_250) rfl ((if0 _ _).trans (feq ((by decide) : ¬ ((1 : Int32) = (0 : Int32)))).1) k) ?_
        show Go _ _ _ _ (T89.setTop (mkF m 253 #[iv p0, iv p1, iv p2, iv 0, iv 0, iv q1, iv q2, iv (48 + q1), iv (48 + q2), rv b3, rv sa_10, rv sa_22, rv sa_32, rv sa_38, rv sa_41, rv sa_44] []))
        refine go_st (fun t k => XS.aload X89.here hx rfl (hb hby at_253) rfl rfl k) ?_
        show Go _ _ _ _ (T89.setTop (mkF m 255 #[iv p0, iv p1, iv p2, iv 0, iv 0, iv q1, iv q2, iv (48 + q1), iv (48 + q2), rv b3, rv sa_10, rv sa_22, rv sa_32, rv sa_38, rv sa_41, rv sa_44] [(.ref sa_38)]))
        have f90 : Exa Z h44 sa_38 cST := ((p38_2.keep K41).keep K44)
        have f91 : Fld Z h44 sa_38 cST "value" "[B" (.ref ta_38) := ((p38_3.keep K41 nin0).keep K44 nin0)
        have f92 : Fld Z h44 sa_38 cST "coder" "B" (.int 0) := ((p38_4.keep K41 nin0).keep K44 nin0)
        have f93 : Arv Z h44 ta_38 kt_38 .byte (0 : Int32) [] (.int (0 : Int32)) := ((p38_5.keep K41 nin0).keep K44 nin0)
        obtain ⟨cq94, kq94, q94a, q94b, q94c⟩ := isOf hZ e89 f90
        obtain ⟨_, _, ⟨T94, L94, kk94, nn94⟩, -, X94, ⟨Lc94, hQ94, lq94, yq94, zq94⟩, st94⟩ := X89.virtualBack hx (y := mn29) (z := mn29) hown (mvT hZ (w161 hw)) (mvT hZ (w162 hw)) (notFace_of_selects (args := #[]) (mvT hZ (w164 hw))) (mvT hZ (w164 hw)) (mvT hZ (w163 hw)) (by decide) (backOf (W := 0) (rm_sisEmpty0 l Z a0 hw [] sa_38 ta_38 kt_38 G1 h44 n0 (Nat.le_trans Z0 sz56) f90 f91 f92 f93 CS CSn oe55) hZ (w165 hw) (w24 hw) (by decide) (by decide)) q94a q94c (g := (mkF m 255 #[iv p0, iv p1, iv p2, iv 0, iv 0, iv q1, iv q2, iv (48 + q1), iv (48 + q2), rv b3, rv sa_10, rv sa_22, rv sa_32, rv sa_38, rv sa_41, rv sa_44] [(.ref sa_38)])) rfl (by rw [hml]; rfl) (Steps.refl _) (argsL := []) (rest := []) (lenOf pd_4 rfl) rfl (by show 2 * 0 + _ ≤ _; exact Nat.le_of_eq rfl) (hb hby at_255) (fun _ _ => ⟨rfl, e89, (by decide : 15 + 0 ≤ _), (by decide : 50 + 0 ≤ _)⟩)
        dsimp only [Pt.U, Pt.locs, Pt.cells, Pt.slots] at X94 lq94 yq94 zq94 st94 hQ94
        subst lq94 yq94 zq94
        obtain ⟨h94, e94⟩ : ∃ z, T94.heap = z := ⟨_, rfl⟩
        rw [e94] at hQ94
        obtain ⟨rfl, N94q, he94⟩ := hQ94
        have N94 := Fr.app N89 N94q
        rw [he94] at e94
        refine go_tr st94 ?_
        show Go _ _ _ _ (T94.setTop (mkF m 258 #[iv p0, iv p1, iv p2, iv 0, iv 0, iv q1, iv q2, iv (48 + q1), iv (48 + q2), rv b3, rv sa_10, rv sa_22, rv sa_32, rv sa_38, rv sa_41, rv sa_44] [(.int 1)]))
        refine go_st (fun t k => XS.ifNo X94.here hx rfl (hb hby at_258) rfl ((if0 _ _).trans (feq ((by decide) : ¬ ((1 : Int32) = (0 : Int32)))).1) k) ?_
        show Go _ _ _ _ (T94.setTop (mkF m 261 #[iv p0, iv p1, iv p2, iv 0, iv 0, iv q1, iv q2, iv (48 + q1), iv (48 + q2), rv b3, rv sa_10, rv sa_22, rv sa_32, rv sa_38, rv sa_41, rv sa_44] []))
        refine go_st (fun t k => XS.iconst X94.here hx rfl (hb hby at_261) k) ?_
        refine go_st (fun t k => XS.goto X94.here hx rfl (pc0 := 262) (pc' := 266) rfl (hb hby at_262) (by decide) (by decide) k) ?_
        show Go _ _ _ _ (T94.setTop (mkF m 266 #[iv p0, iv p1, iv p2, iv 0, iv 0, iv q1, iv q2, iv (48 + q1), iv (48 + q2), rv b3, rv sa_10, rv sa_22, rv sa_32, rv sa_38, rv sa_41, rv sa_44] [(.int 1)]))
        subst hPP
        have ke95 : Keep h0 h3 [] := (Keep.ext (Keep.refl h0 []) E3)
        have ke96 : Keep h0 h7 [] := (Keep.trans ke95 K7 (allS (Or.inr (Nat.le_of_eq gq3.symm)) all0))
        have ke97 : Keep h0 h10 [] := (Keep.trans ke96 K10 (allS (Or.inr (Nat.le_trans E3.1 lf7_0)) all0))
        have ke98 : Keep h0 h19 [] := (Keep.trans ke97 K19 (allS (Or.inr (Nat.le_trans E3.1 lf7_0)) (allS (Or.inr (Nat.le_trans E3.1 lf7_1)) (allS (Or.inr (Nat.le_of_eq gq3.symm)) all0))))
        have ke99 : Keep h0 h22 [] := (Keep.trans ke98 K22 (allS (Or.inr (Nat.le_trans E3.1 lf7_0)) all0))
        have ke100 : Keep h0 h29 [] := (Keep.trans ke99 K29 (allS (Or.inr (Nat.le_trans E3.1 lf7_0)) (allS (Or.inr (Nat.le_trans E3.1 lf7_1)) (allS (Or.inr (Nat.le_of_eq gq3.symm)) all0))))
        have ke101 : Keep h0 h32 [] := (Keep.trans ke100 K32 (allS (Or.inr (Nat.le_trans E3.1 lf7_0)) all0))
        have ke102 : Keep h0 h38 [] := (Keep.trans ke101 K38 (allS (Or.inr (Nat.le_trans E3.1 lf7_0)) all0))
        have ke103 : Keep h0 h41 [] := (Keep.trans ke102 K41 all0)
        have ke104 : Keep h0 h44 [] := (Keep.trans ke103 K44 all0)
        obtain ⟨fs, hr, hrun, hended, hW, hsame⟩ := X94.leave (v := some (.int 1)) (fun h => by rw [Bd.returns] at h; cases h)
        refine ⟨_, _, ?_, hrun, hended, _, _, rfl, ?_, ⟨_, rfl⟩, hW, hsame.mono (by decide) (by decide)⟩
        · exact retN X94 hx (t := .boolean) Bd.returns (by simp) (hb hby at_266) hr
        · show Q_law _ _ _ _ _ _ _ _ _ _ T94.heap _
          rw [e94]
          exact ⟨rfl, N94, ke104⟩
      · skip
        show Go _ _ _ _ (T22.setTop (mkF m 103 #[iv p0, iv p1, iv p2, iv 0, iv 1, iv q1, iv q2, iv (48 + q1), iv (48 + q2), rv b3, rv sa_10, rv sa_22, .unset, .unset, .unset, .unset] [(.int 1)]))
        refine go_st (fun t k => XS.ifNo X22.here hx rfl (hb hby at_103) rfl ((if0 _ _).trans (feq ((by decide) : ¬ ((1 : Int32) = (0 : Int32)))).1) k) ?_
        show Go _ _ _ _ (T22.setTop (mkF m 106 #[iv p0, iv p1, iv p2, iv 0, iv 1, iv q1, iv q2, iv (48 + q1), iv (48 + q2), rv b3, rv sa_10, rv sa_22, .unset, .unset, .unset, .unset] []))
        refine go_st (fun t k => XS.aload X22.here hx rfl (hb hby at_106) rfl rfl k) ?_
        refine go_st (fun t k => XS.iload X22.here hx rfl (hb hby at_108) rfl k) ?_
        show Go _ _ _ _ (T22.setTop (mkF m 110 #[iv p0, iv p1, iv p2, iv 0, iv 1, iv q1, iv q2, iv (48 + q1), iv (48 + q2), rv b3, rv sa_10, rv sa_22, .unset, .unset, .unset, .unset] [(.int q2), (.ref b3)]))
        refine go_st (fun t k => XS.i2l X22.here hx rfl (hb hby at_110) rfl k) ?_
        show Go _ _ _ _ (T22.setTop (mkF m 111 #[iv p0, iv p1, iv p2, iv 0, iv 1, iv q1, iv q2, iv (48 + q1), iv (48 + q2), rv b3, rv sa_10, rv sa_22, .unset, .unset, .unset, .unset] [(.long ((q2).toInt64)), (.ref b3)]))
        have f105 : Exa Z h22 b3 cJW := (p19_0.keep K22)
        have f106 : Fld Z h22 b3 cJW "text" "Ljava/lang/StringBuilder;" (.ref sb_7) := (p19_1.keep K22 (ninS nq12 nin0))
        have f107 : Fld Z h22 b3 cJW "afterValue" "Z" (.int 0) := (p19_2.keep K22 (ninS nq12 nin0))
        have f108 : Arv Z h22 va_7 kv_7 .byte (16 : Int32) [(.int (nar .byte ((91 : Int32).toInt8.toInt32))), (.int 0)] (.int (0 : Int32)) := (p19_8.keep K22 (ninS nq15 nin0))
        have oe109 : Old Z n0 h22 := (Old.keep oe20 K22 (allS gf7_0 all0))
        have sz110 : h0.size ≤ h22.size := (Nat.le_trans sz21 K22.1)
        obtain ⟨cq111, kq111, q111a, q111b, q111c⟩ := isOf hZ e22 f105
        obtain ⟨_, _, ⟨T111, L111, kk111, nn111⟩, -, X111, ⟨Lc111, hQ111, lq111, yq111, zq111⟩, st111⟩ := X22.virtualBack hx (y := mn32) (z := mn32) hown (mvT hZ (w174 hw)) (mvT hZ (w175 hw)) (nf_same (y := mn32) (y' := mn3) (a0 := #[]) rfl (mvT hZ (w34 hw)) (notFace_of_selects (args := #[]) (mvT hZ (w35 hw)))) (mvT hZ (w177 hw)) (mvT hZ (w176 hw)) (by decide) (backOf (W := 0) (rm_number00 l Z a0 hw [] b3 sb_7 va_7 kv_7 (nar .byte ((91 : Int32).toInt8.toInt32)) (0 : Int32) (1 : Int32) q2 da dc G1 h22 n0 (Nat.le_trans Z0 sz110) f105 f106 f107 p22_6 p22_7 p22_8 p22_9 p22_10 f108 gf7_0 gf7_1 g_b3 hq2 DS DA DV CS CSn oe109) hZ (w178 hw) (w3 hw) (by decide) (by decide)) q111a q111c (g := (mkF m 111 #[iv p0, iv p1, iv p2, iv 0, iv 1, iv q1, iv q2, iv (48 + q1), iv (48 + q2), rv b3, rv sa_10, rv sa_22, .unset, .unset, .unset, .unset] [(.long ((q2).toInt64)), (.ref b3)])) rfl (by rw [hml]; rfl) (Steps.refl _) (argsL := [(.long ((q2).toInt64))]) (rest := []) (lenOf pd_25 rfl) rfl (by show 2 * 0 + _ ≤ _; exact Nat.le_of_eq rfl) (hb hby at_111) (fun _ _ => ⟨rfl, e22, (by decide : 7 + 0 ≤ _), (by decide : 31 + 0 ≤ _)⟩)
        dsimp only [Pt.U, Pt.locs, Pt.cells, Pt.slots] at X111 lq111 yq111 zq111 st111 hQ111
        subst lq111 yq111 zq111
        obtain ⟨h111, e111⟩ : ∃ z, T111.heap = z := ⟨_, rfl⟩
        rw [e111] at hQ111
        obtain ⟨rfl, N111q, K111, p111_0, p111_1, p111_2, p111_3, p111_4, p111_5, p111_6, p111_7, p111_8⟩ := hQ111
        have N111 := Fr.app N22 N111q
        refine go_tr st111 ?_
        show Go _ _ _ _ (T111.setTop (mkF m 114 #[iv p0, iv p1, iv p2, iv 0, iv 1, iv q1, iv q2, iv (48 + q1), iv (48 + q2), rv b3, rv sa_10, rv sa_22, .unset, .unset, .unset, .unset] [(.ref b3)]))
        refine go_st (fun t k => XS.pop X111.here hx rfl (hb hby at_114) rfl rfl k) ?_
        refine go_st (fun t k => XS.goto X111.here hx rfl (pc0 := 115) (pc' := 124) rfl (hb hby at_115) (by decide) (by decide) k) ?_
        show Go _ _ _ _ (T111.setTop (mkF m 124 #[iv p0, iv p1, iv p2, iv 0, iv 1, iv q1, iv q2, iv (48 + q1), iv (48 + q2), rv b3, rv sa_10, rv sa_22, .unset, .unset, .unset, .unset] []))
        refine go_st (fun t k => XS.aload X111.here hx rfl (hb hby at_124) rfl rfl k) ?_
        show Go _ _ _ _ (T111.setTop (mkF m 126 #[iv p0, iv p1, iv p2, iv 0, iv 1, iv q1, iv q2, iv (48 + q1), iv (48 + q2), rv b3, rv sa_10, rv sa_22, .unset, .unset, .unset, .unset] [(.ref b3)]))
        have oe112 : Old Z n0 h111 := (Old.keep oe109 K111 (allS gf7_0 (allS gf7_1 (allS g_b3 all0))))
        have sz113 : h0.size ≤ h111.size := (Nat.le_trans sz110 K111.1)
        obtain ⟨cq114, kq114, q114a, q114b, q114c⟩ := isOf hZ e111 p111_0
        obtain ⟨_, _, ⟨T114, L114, kk114, nn114⟩, -, X114, ⟨Lc114, hQ114, lq114, yq114, zq114⟩, st114⟩ := X111.virtualBack hx (y := mn3) (z := mn3) hown (mvT hZ (w32 hw)) (mvT hZ (w33 hw)) (notFace_of_selects (args := #[]) (mvT hZ (w35 hw))) (mvT hZ (w35 hw)) (mvT hZ (w34 hw)) (by decide) (backOf (W := 0) (rm_drain1 l Z a0 hw [] b3 sb_7 va_7 kv_7 (48 + q2) (0 : Int32) (1 : Int32) G1 h111 n0 (Nat.le_trans Z0 sz113) p111_0 p111_1 p111_3 p111_4 p111_5 p111_6 p111_7 p111_8 gf7_0 CS CSn oe112) hZ (w36 hw) (w3 hw) (by decide) (by decide)) q114a q114c (g := (mkF m 126 #[iv p0, iv p1, iv p2, iv 0, iv 1, iv q1, iv q2, iv (48 + q1), iv (48 + q2), rv b3, rv sa_10, rv sa_22, .unset, .unset, .unset, .unset] [(.ref b3)])) rfl (by rw [hml]; rfl) (Steps.refl _) (argsL := []) (rest := []) (lenOf pd_10 rfl) rfl (by show 2 * 0 + _ ≤ _; exact Nat.le_of_eq rfl) (hb hby at_126) (fun _ _ => ⟨rfl, e111, (by decide : 7 + 2 ≤ _), (by decide : 31 + 5 ≤ _)⟩)
        dsimp only [Pt.U, Pt.locs, Pt.cells, Pt.slots] at X114 lq114 yq114 zq114 st114 hQ114
        subst lq114 yq114 zq114
        obtain ⟨h114, e114⟩ : ∃ z, T114.heap = z := ⟨_, rfl⟩
        rw [e114] at hQ114
        obtain ⟨sa_114, ta_114, kt_114, rfl, N114q, K114, gf114_0, lf114_0, gf114_1, lf114_1, p114_2, p114_3, p114_4, p114_5, p114_6, p114_7, p114_8, p114_9, p114_10⟩ := hQ114
        have N114 := Fr.app N111 N114q
        refine go_tr st114 ?_
        refine go_st (fun t k => XS.astore X114.here hx rfl (hb hby at_129) rfl rfl (l' := #[iv p0, iv p1, iv p2, iv 0, iv 1, iv q1, iv q2, iv (48 + q1), iv (48 + q2), rv b3, rv sa_10, rv sa_22, rv sa_114, .unset, .unset, .unset]) rfl k) ?_
        refine go_st (fun t k => XS.aload X114.here hx rfl (hb hby at_131) rfl rfl k) ?_
        show Go _ _ _ _ (T114.setTop (mkF m 133 #[iv p0, iv p1, iv p2, iv 0, iv 1, iv q1, iv q2, iv (48 + q1), iv (48 + q2), rv b3, rv sa_10, rv sa_22, rv sa_114, .unset, .unset, .unset] [(.ref b3)]))
        have f115 : Exa Z h114 b3 cJW := (p111_0.keep K114)
        have f116 : Fld Z h114 b3 cJW "text" "Ljava/lang/StringBuilder;" (.ref sb_7) := (p111_1.keep K114 (ninS nq12 nin0))
        have f117 : Arv Z h114 va_7 kv_7 .byte (16 : Int32) [(.int (48 + q2)), (.int 0)] (.int (0 : Int32)) := (p111_8.keep K114 (ninS nq15 nin0))
        have oe118 : Old Z n0 h114 := (Old.keep oe112 K114 (allS gf7_0 all0))
        have sz119 : h0.size ≤ h114.size := (Nat.le_trans sz113 K114.1)
        obtain ⟨cq120, kq120, q120a, q120b, q120c⟩ := isOf hZ e114 f115
        obtain ⟨_, _, ⟨T120, L120, kk120, nn120⟩, -, X120, ⟨Lc120, hQ120, lq120, yq120, zq120⟩, st120⟩ := X114.virtualBack hx (y := mn3) (z := mn3) hown (mvT hZ (w32 hw)) (mvT hZ (w33 hw)) (notFace_of_selects (args := #[]) (mvT hZ (w35 hw))) (mvT hZ (w35 hw)) (mvT hZ (w34 hw)) (by decide) (backOf (W := 0) (rm_drain0 l Z a0 hw [] b3 sb_7 va_7 kv_7 (48 + q2) (0 : Int32) (1 : Int32) G1 h114 n0 (Nat.le_trans Z0 sz119) f115 f116 p114_6 p114_7 p114_8 p114_9 p114_10 f117 gf7_0 CS CSn oe118) hZ (w36 hw) (w3 hw) (by decide) (by decide)) q120a q120c (g := (mkF m 133 #[iv p0, iv p1, iv p2, iv 0, iv 1, iv q1, iv q2, iv (48 + q1), iv (48 + q2), rv b3, rv sa_10, rv sa_22, rv sa_114, .unset, .unset, .unset] [(.ref b3)])) rfl (by rw [hml]; rfl) (Steps.refl _) (argsL := []) (rest := []) (lenOf pd_10 rfl) rfl (by show 2 * 0 + _ ≤ _; exact Nat.le_of_eq rfl) (hb hby at_133) (fun _ _ => ⟨rfl, e114, (by decide : 9 + 2 ≤ _), (by decide : 36 + 4 ≤ _)⟩)
        dsimp only [Pt.U, Pt.locs, Pt.cells, Pt.slots] at X120 lq120 yq120 zq120 st120 hQ120
        subst lq120 yq120 zq120
        obtain ⟨h120, e120⟩ : ∃ z, T120.heap = z := ⟨_, rfl⟩
        rw [e120] at hQ120
        obtain ⟨sa_120, ta_120, kt_120, rfl, N120q, K120, gf120_0, lf120_0, gf120_1, lf120_1, p120_2, p120_3, p120_4, p120_5, p120_6, p120_7, p120_8, p120_9, p120_10⟩ := hQ120
        have N120 := Fr.app N114 N120q
        refine go_tr st120 ?_
        refine go_st (fun t k => XS.astore X120.here hx rfl (hb hby at_136) rfl rfl (l' := #[iv p0, iv p1, iv p2, iv 0, iv 1, iv q1, iv q2, iv (48 + q1), iv (48 + q2), rv b3, rv sa_10, rv sa_22, rv sa_114, rv sa_120, .unset, .unset]) rfl k) ?_
        refine go_st (fun t k => XS.iloadN X120.here hx rfl (hb hby at_138) rfl k) ?_
        show Go _ _ _ _ (T120.setTop (mkF m 139 #[iv p0, iv p1, iv p2, iv 0, iv 1, iv q1, iv q2, iv (48 + q1), iv (48 + q2), rv b3, rv sa_10, rv sa_22, rv sa_114, rv sa_120, .unset, .unset] [(.int 0)]))
        refine go_st (fun t k => XS.ifYes X120.here hx rfl (pc0 := 139) (pc' := 167) rfl (hb hby at_139) rfl ((if0 _ _).trans (teq ((by decide) : (0 : Int32) = (0 : Int32))).1) (by decide) (by decide) k) ?_
        show Go _ _ _ _ (T120.setTop (mkF m 167 #[iv p0, iv p1, iv p2, iv 0, iv 1, iv q1, iv q2, iv (48 + q1), iv (48 + q2), rv b3, rv sa_10, rv sa_22, rv sa_114, rv sa_120, .unset, .unset] []))
        refine go_st (fun t k => XS.bipush X120.here hx rfl (hb hby at_167) k) ?_
        show Go _ _ _ _ (T120.setTop (mkF m 169 #[iv p0, iv p1, iv p2, iv 0, iv 1, iv q1, iv q2, iv (48 + q1), iv (48 + q2), rv b3, rv sa_10, rv sa_22, rv sa_114, rv sa_120, .unset, .unset] [(.int 91)]))
        have oe121 : Old Z n0 h120 := (Old.keep oe118 K120 (allS gf7_0 all0))
        have sz122 : h0.size ≤ h120.size := (Nat.le_trans sz119 K120.1)
        obtain ⟨_, _, ⟨T123, L123, kk123, nn123⟩, -, X123, ⟨Lc123, hQ123, lq123, yq123, zq123⟩, st123⟩ := Jvm.LawKit.callS X120 hx (y := mn26) hown (mvT hZ (w149 hw)) (mvT hZ (w150 hw)) (mvT hZ (w24 hw)) (mvT hZ (w151 hw)) (by decide) (backOf (W := 0) (rm_vof l Z a0 hw [] (91 : Int32) G1 h120 n0 (Nat.le_trans Z0 sz122) (by decide) CS CSn oe121) hZ (w151 hw) (w24 hw) (by decide) (by decide)) (g := (mkF m 169 #[iv p0, iv p1, iv p2, iv 0, iv 1, iv q1, iv q2, iv (48 + q1), iv (48 + q2), rv b3, rv sa_10, rv sa_22, rv sa_114, rv sa_120, .unset, .unset] [(.int 91)])) rfl (by rw [hml]; rfl) (argsL := [(.int 91)]) (rest := []) (lenOf pd_18 rfl) rfl (by show 2 * 0 + _ ≤ _; exact Nat.le_of_eq rfl) (hb hby at_169) (fun _ _ => ⟨rfl, e120, (by decide : 11 + 2 ≤ _), (by decide : 40 + 5 ≤ _)⟩)
        dsimp only [Pt.U, Pt.locs, Pt.cells, Pt.slots] at X123 lq123 yq123 zq123 st123 hQ123
        subst lq123 yq123 zq123
        obtain ⟨h123, e123⟩ : ∃ z, T123.heap = z := ⟨_, rfl⟩
        rw [e123] at hQ123
        obtain ⟨sa_123, ta_123, kt_123, rfl, N123q, K123, gf123_0, lf123_0, gf123_1, lf123_1, p123_2, p123_3, p123_4, p123_5⟩ := hQ123
        have N123 := Fr.app N120 N123q
        refine go_st st123 ?_
        refine go_st (fun t k => XS.astore X123.here hx rfl (hb hby at_172) rfl rfl (l' := #[iv p0, iv p1, iv p2, iv 0, iv 1, iv q1, iv q2, iv (48 + q1), iv (48 + q2), rv b3, rv sa_10, rv sa_22, rv sa_114, rv sa_120, rv sa_123, .unset]) rfl k) ?_
        refine go_st (fun t k => XS.iload X123.here hx rfl (hb hby at_174) rfl k) ?_
        show Go _ _ _ _ (T123.setTop (mkF m 176 #[iv p0, iv p1, iv p2, iv 0, iv 1, iv q1, iv q2, iv (48 + q1), iv (48 + q2), rv b3, rv sa_10, rv sa_22, rv sa_114, rv sa_120, rv sa_123, .unset] [(.int 1)]))
        refine go_st (fun t k => XS.ifNo X123.here hx rfl (hb hby at_176) rfl ((if0 _ _).trans (feq ((by decide) : ¬ ((1 : Int32) = (0 : Int32)))).1) k) ?_
        show Go _ _ _ _ (T123.setTop (mkF m 179 #[iv p0, iv p1, iv p2, iv 0, iv 1, iv q1, iv q2, iv (48 + q1), iv (48 + q2), rv b3, rv sa_10, rv sa_22, rv sa_114, rv sa_120, rv sa_123, .unset] []))
        refine go_st (fun t k => XS.iloadN X123.here hx rfl (hb hby at_179) rfl k) ?_
        show Go _ _ _ _ (T123.setTop (mkF m 180 #[iv p0, iv p1, iv p2, iv 0, iv 1, iv q1, iv q2, iv (48 + q1), iv (48 + q2), rv b3, rv sa_10, rv sa_22, rv sa_114, rv sa_120, rv sa_123, .unset] [(.int 0)]))
        refine go_st (fun t k => XS.ifYes X123.here hx rfl (pc0 := 180) (pc' := 208) rfl (hb hby at_180) rfl ((if0 _ _).trans (teq ((by decide) : (0 : Int32) = (0 : Int32))).1) (by decide) (by decide) k) ?_
        show Go _ _ _ _ (T123.setTop (mkF m 208 #[iv p0, iv p1, iv p2, iv 0, iv 1, iv q1, iv q2, iv (48 + q1), iv (48 + q2), rv b3, rv sa_10, rv sa_22, rv sa_114, rv sa_120, rv sa_123, .unset] []))
        refine go_st (fun t k => XS.iload X123.here hx rfl (hb hby at_208) rfl k) ?_
        show Go _ _ _ _ (T123.setTop (mkF m 210 #[iv p0, iv p1, iv p2, iv 0, iv 1, iv q1, iv q2, iv (48 + q1), iv (48 + q2), rv b3, rv sa_10, rv sa_22, rv sa_114, rv sa_120, rv sa_123, .unset] [(.int (48 + q2))]))
        have oe124 : Old Z n0 h123 := (Old.keep oe121 K123 all0)
        have sz125 : h0.size ≤ h123.size := (Nat.le_trans sz122 K123.1)
        obtain ⟨_, _, ⟨T126, L126, kk126, nn126⟩, -, X126, ⟨Lc126, hQ126, lq126, yq126, zq126⟩, st126⟩ := Jvm.LawKit.callS X123 hx (y := mn26) hown (mvT hZ (w149 hw)) (mvT hZ (w150 hw)) (mvT hZ (w24 hw)) (mvT hZ (w151 hw)) (by decide) (backOf (W := 0) (rm_vof l Z a0 hw [] (48 + q2) G1 h123 n0 (Nat.le_trans Z0 sz125) (dg_all (P := fun q2 => ¬ (255 : Int32) < (48 + q2)) hq2 (by decide +kernel)) CS CSn oe124) hZ (w151 hw) (w24 hw) (by decide) (by decide)) (g := (mkF m 210 #[iv p0, iv p1, iv p2, iv 0, iv 1, iv q1, iv q2, iv (48 + q1), iv (48 + q2), rv b3, rv sa_10, rv sa_22, rv sa_114, rv sa_120, rv sa_123, .unset] [(.int (48 + q2))])) rfl (by rw [hml]; rfl) (argsL := [(.int (48 + q2))]) (rest := []) (lenOf pd_18 rfl) rfl (by show 2 * 0 + _ ≤ _; exact Nat.le_of_eq rfl) (hb hby at_210) (fun _ _ => ⟨rfl, e123, (by decide : 13 + 2 ≤ _), (by decide : 45 + 5 ≤ _)⟩)
        dsimp only [Pt.U, Pt.locs, Pt.cells, Pt.slots] at X126 lq126 yq126 zq126 st126 hQ126
        subst lq126 yq126 zq126
        obtain ⟨h126, e126⟩ : ∃ z, T126.heap = z := ⟨_, rfl⟩
        rw [e126] at hQ126
        obtain ⟨sa_126, ta_126, kt_126, rfl, N126q, K126, gf126_0, lf126_0, gf126_1, lf126_1, p126_2, p126_3, p126_4, p126_5⟩ := hQ126
        have N126 := Fr.app N123 N126q
        refine go_st st126 ?_
        refine go_st (fun t k => XS.astore X126.here hx rfl (hb hby at_213) rfl rfl (l' := #[iv p0, iv p1, iv p2, iv 0, iv 1, iv q1, iv q2, iv (48 + q1), iv (48 + q2), rv b3, rv sa_10, rv sa_22, rv sa_114, rv sa_120, rv sa_123, rv sa_126]) rfl k) ?_
        refine go_st (fun t k => XS.goto X126.here hx rfl (pc0 := 215) (pc' := 225) rfl (hb hby at_215) (by decide) (by decide) k) ?_
        show Go _ _ _ _ (T126.setTop (mkF m 225 #[iv p0, iv p1, iv p2, iv 0, iv 1, iv q1, iv q2, iv (48 + q1), iv (48 + q2), rv b3, rv sa_10, rv sa_22, rv sa_114, rv sa_120, rv sa_123, rv sa_126] []))
        refine go_st (fun t k => XS.aload X126.here hx rfl (hb hby at_225) rfl rfl k) ?_
        show Go _ _ _ _ (T126.setTop (mkF m 227 #[iv p0, iv p1, iv p2, iv 0, iv 1, iv q1, iv q2, iv (48 + q1), iv (48 + q2), rv b3, rv sa_10, rv sa_22, rv sa_114, rv sa_120, rv sa_123, rv sa_126] [(.ref sa_10)]))
        have f127 : Exa Z h126 sa_10 cST := (((((((p10_2.keep K19).keep K22).keep K111).keep K114).keep K120).keep K123).keep K126)
        have nq128 : b3 ≠ sa_10 := Nat.ne_of_lt (Nat.lt_of_lt_of_le (Nat.lt_of_lt_of_le A3.lt K7.1) lf10_0)
        have nq129 : va_7 ≠ sa_10 := Nat.ne_of_lt (Nat.lt_of_lt_of_le (Nat.lt_of_lt_of_le p7_10.lt (Nat.le_refl _)) lf10_0)
        have nq130 : sb_7 ≠ sa_10 := Nat.ne_of_lt (Nat.lt_of_lt_of_le (Nat.lt_of_lt_of_le p7_5.lt (Nat.le_refl _)) lf10_0)
        have f131 : Fld Z h126 sa_10 cST "value" "[B" (.ref ta_10) := (((((((p10_3.keep K19 (ninS (Ne.symm nq130) (ninS (Ne.symm nq129) (ninS (Ne.symm nq128) nin0)))).keep K22 (ninS (Ne.symm nq130) nin0)).keep K111 (ninS (Ne.symm nq130) (ninS (Ne.symm nq129) (ninS (Ne.symm nq128) nin0)))).keep K114 (ninS (Ne.symm nq130) nin0)).keep K120 (ninS (Ne.symm nq130) nin0)).keep K123 nin0).keep K126 nin0)
        have f132 : Fld Z h126 sa_10 cST "coder" "B" (.int 0) := (((((((p10_4.keep K19 (ninS (Ne.symm nq130) (ninS (Ne.symm nq129) (ninS (Ne.symm nq128) nin0)))).keep K22 (ninS (Ne.symm nq130) nin0)).keep K111 (ninS (Ne.symm nq130) (ninS (Ne.symm nq129) (ninS (Ne.symm nq128) nin0)))).keep K114 (ninS (Ne.symm nq130) nin0)).keep K120 (ninS (Ne.symm nq130) nin0)).keep K123 nin0).keep K126 nin0)
        have nq133 : b3 ≠ ta_10 := Nat.ne_of_lt (Nat.lt_of_lt_of_le (Nat.lt_of_lt_of_le A3.lt K7.1) lf10_1)
        have nq134 : va_7 ≠ ta_10 := Nat.ne_of_lt (Nat.lt_of_lt_of_le (Nat.lt_of_lt_of_le p7_10.lt (Nat.le_refl _)) lf10_1)
        have nq135 : sb_7 ≠ ta_10 := Nat.ne_of_lt (Nat.lt_of_lt_of_le (Nat.lt_of_lt_of_le p7_5.lt (Nat.le_refl _)) lf10_1)
        have f136 : Arv Z h126 ta_10 kt_10 .byte (0 : Int32) [] (.int (0 : Int32)) := (((((((p10_5.keep K19 (ninS (Ne.symm nq135) (ninS (Ne.symm nq134) (ninS (Ne.symm nq133) nin0)))).keep K22 (ninS (Ne.symm nq135) nin0)).keep K111 (ninS (Ne.symm nq135) (ninS (Ne.symm nq134) (ninS (Ne.symm nq133) nin0)))).keep K114 (ninS (Ne.symm nq135) nin0)).keep K120 (ninS (Ne.symm nq135) nin0)).keep K123 nin0).keep K126 nin0)
        have oe137 : Old Z n0 h126 := (Old.keep oe124 K126 all0)
        have sz138 : h0.size ≤ h126.size := (Nat.le_trans sz125 K126.1)
        obtain ⟨cq139, kq139, q139a, q139b, q139c⟩ := isOf hZ e126 f127
        obtain ⟨_, _, ⟨T139, L139, kk139, nn139⟩, -, X139, ⟨Lc139, hQ139, lq139, yq139, zq139⟩, st139⟩ := X126.virtualBack hx (y := mn29) (z := mn29) hown (mvT hZ (w161 hw)) (mvT hZ (w162 hw)) (notFace_of_selects (args := #[]) (mvT hZ (w164 hw))) (mvT hZ (w164 hw)) (mvT hZ (w163 hw)) (by decide) (backOf (W := 0) (rm_sisEmpty0 l Z a0 hw [] sa_10 ta_10 kt_10 G1 h126 n0 (Nat.le_trans Z0 sz138) f127 f131 f132 f136 CS CSn oe137) hZ (w165 hw) (w24 hw) (by decide) (by decide)) q139a q139c (g := (mkF m 227 #[iv p0, iv p1, iv p2, iv 0, iv 1, iv q1, iv q2, iv (48 + q1), iv (48 + q2), rv b3, rv sa_10, rv sa_22, rv sa_114, rv sa_120, rv sa_123, rv sa_126] [(.ref sa_10)])) rfl (by rw [hml]; rfl) (Steps.refl _) (argsL := []) (rest := []) (lenOf pd_4 rfl) rfl (by show 2 * 0 + _ ≤ _; exact Nat.le_of_eq rfl) (hb hby at_227) (fun _ _ => ⟨rfl, e126, (by decide : 15 + 0 ≤ _), (by decide : 50 + 0 ≤ _)⟩)
        dsimp only [Pt.U, Pt.locs, Pt.cells, Pt.slots] at X139 lq139 yq139 zq139 st139 hQ139
        subst lq139 yq139 zq139
        obtain ⟨h139, e139⟩ : ∃ z, T139.heap = z := ⟨_, rfl⟩
        rw [e139] at hQ139
        obtain ⟨rfl, N139q, he139⟩ := hQ139
        have N139 := Fr.app N126 N139q
        rw [he139] at e139
        refine go_tr st139 ?_
        show Go _ _ _ _ (T139.setTop (mkF m 230 #[iv p0, iv p1, iv p2, iv 0, iv 1, iv q1, iv q2, iv (48 + q1), iv (48 + q2), rv b3, rv sa_10, rv sa_22, rv sa_114, rv sa_120, rv sa_123, rv sa_126] [(.int 1)]))
        refine go_st (fun t k => XS.ifNo X139.here hx rfl (hb hby at_230) rfl ((if0 _ _).trans (feq ((by decide) : ¬ ((1 : Int32) = (0 : Int32)))).1) k) ?_
        show Go _ _ _ _ (T139.setTop (mkF m 233 #[iv p0, iv p1, iv p2, iv 0, iv 1, iv q1, iv q2, iv (48 + q1), iv (48 + q2), rv b3, rv sa_10, rv sa_22, rv sa_114, rv sa_120, rv sa_123, rv sa_126] []))
        refine go_st (fun t k => XS.aload X139.here hx rfl (hb hby at_233) rfl rfl k) ?_
        refine go_st (fun t k => XS.aload X139.here hx rfl (hb hby at_235) rfl rfl k) ?_
        show Go _ _ _ _ (T139.setTop (mkF m 237 #[iv p0, iv p1, iv p2, iv 0, iv 1, iv q1, iv q2, iv (48 + q1), iv (48 + q2), rv b3, rv sa_10, rv sa_22, rv sa_114, rv sa_120, rv sa_123, rv sa_126] [(.ref sa_123), (.ref sa_22)]))
        have f140 : Exa Z h126 sa_22 cST := (((((p22_2.keep K111).keep K114).keep K120).keep K123).keep K126)
        have sz141 : h3.size ≤ h10.size := (Nat.le_trans K7.1 K10.1)
        have sz142 : h3.size ≤ h19.size := (Nat.le_trans sz141 K19.1)
        have nq143 : b3 ≠ sa_22 := Nat.ne_of_lt (Nat.lt_of_lt_of_le (Nat.lt_of_lt_of_le A3.lt sz142) lf22_0)
        have sz144 : h7.size ≤ h19.size := (Nat.le_trans K10.1 K19.1)
        have nq145 : va_7 ≠ sa_22 := Nat.ne_of_lt (Nat.lt_of_lt_of_le (Nat.lt_of_lt_of_le p7_10.lt sz144) lf22_0)
        have nq146 : sb_7 ≠ sa_22 := Nat.ne_of_lt (Nat.lt_of_lt_of_le (Nat.lt_of_lt_of_le p7_5.lt sz144) lf22_0)
        have f147 : Fld Z h126 sa_22 cST "value" "[B" (.ref ta_22) := (((((p22_3.keep K111 (ninS (Ne.symm nq146) (ninS (Ne.symm nq145) (ninS (Ne.symm nq143) nin0)))).keep K114 (ninS (Ne.symm nq146) nin0)).keep K120 (ninS (Ne.symm nq146) nin0)).keep K123 nin0).keep K126 nin0)
        have f148 : Fld Z h126 sa_22 cST "coder" "B" (.int 0) := (((((p22_4.keep K111 (ninS (Ne.symm nq146) (ninS (Ne.symm nq145) (ninS (Ne.symm nq143) nin0)))).keep K114 (ninS (Ne.symm nq146) nin0)).keep K120 (ninS (Ne.symm nq146) nin0)).keep K123 nin0).keep K126 nin0)
        have nq149 : b3 ≠ ta_22 := Nat.ne_of_lt (Nat.lt_of_lt_of_le (Nat.lt_of_lt_of_le A3.lt sz142) lf22_1)
        have nq150 : va_7 ≠ ta_22 := Nat.ne_of_lt (Nat.lt_of_lt_of_le (Nat.lt_of_lt_of_le p7_10.lt sz144) lf22_1)
        have nq151 : sb_7 ≠ ta_22 := Nat.ne_of_lt (Nat.lt_of_lt_of_le (Nat.lt_of_lt_of_le p7_5.lt sz144) lf22_1)
        have f152 : Arv Z h126 ta_22 kt_22 .byte (1 : Int32) [(.int (nar .byte ((91 : Int32).toInt8.toInt32)))] (.int (0 : Int32)) := (((((p22_5.keep K111 (ninS (Ne.symm nq151) (ninS (Ne.symm nq150) (ninS (Ne.symm nq149) nin0)))).keep K114 (ninS (Ne.symm nq151) nin0)).keep K120 (ninS (Ne.symm nq151) nin0)).keep K123 nin0).keep K126 nin0)
        have f153 : Exa Z h126 sa_123 cST := (p123_2.keep K126)
        have f154 : Fld Z h126 sa_123 cST "value" "[B" (.ref ta_123) := (p123_3.keep K126 nin0)
        have f155 : Fld Z h126 sa_123 cST "coder" "B" (.int 0) := (p123_4.keep K126 nin0)
        have f156 : Arv Z h126 ta_123 kt_123 .byte (1 : Int32) [(.int (nar .byte ((91 : Int32).toInt8.toInt32)))] (.int (0 : Int32)) := (p123_5.keep K126 nin0)
        have sz157 : h22.size ≤ h114.size := (Nat.le_trans K111.1 K114.1)
        have sz158 : h22.size ≤ h120.size := (Nat.le_trans sz157 K120.1)
        have nq159 : sa_22 ≠ sa_123 := Nat.ne_of_lt (Nat.lt_of_lt_of_le (Nat.lt_of_lt_of_le p22_2.lt sz158) lf123_0)
        obtain ⟨cq160, kq160, q160a, q160b, q160c⟩ := isOf hZ e139 f140
        obtain ⟨_, _, ⟨T160, L160, kk160, nn160⟩, -, X160, ⟨Lc160, hQ160, lq160, yq160, zq160⟩, st160⟩ := X139.virtualBack hx (y := mn30) (z := mn30) hown (mvT hZ (w166 hw)) (mvT hZ (w167 hw)) (nf_same (y := mn30) (y' := mn29) (a0 := #[]) rfl (mvT hZ (w163 hw)) (notFace_of_selects (args := #[]) (mvT hZ (w164 hw)))) (mvT hZ (w169 hw)) (mvT hZ (w168 hw)) (by decide) (backOf (W := 0) (rm_seq1 l Z a0 hw [] sa_22 ta_22 kt_22 (nar .byte ((91 : Int32).toInt8.toInt32)) sa_123 ta_123 kt_123 (nar .byte ((91 : Int32).toInt8.toInt32)) G1 h126 n0 (Nat.le_trans Z0 sz138) f140 f147 f148 f152 f153 f154 f155 f156 nq159 (by decide) CS CSn oe137) hZ (w170 hw) (w24 hw) (by decide) (by decide)) q160a q160c (g := (mkF m 237 #[iv p0, iv p1, iv p2, iv 0, iv 1, iv q1, iv q2, iv (48 + q1), iv (48 + q2), rv b3, rv sa_10, rv sa_22, rv sa_114, rv sa_120, rv sa_123, rv sa_126] [(.ref sa_123), (.ref sa_22)])) rfl (by rw [hml]; rfl) (Steps.refl _) (argsL := [(.ref sa_123)]) (rest := []) (lenOf pd_20 rfl) rfl (by show 2 * 0 + _ ≤ _; exact Nat.le_of_eq rfl) (hb hby at_237) (fun _ _ => ⟨rfl, e139, (by decide : 15 + 0 ≤ _), (by decide : 50 + 0 ≤ _)⟩)
        dsimp only [Pt.U, Pt.locs, Pt.cells, Pt.slots] at X160 lq160 yq160 zq160 st160 hQ160
        subst lq160 yq160 zq160
        obtain ⟨h160, e160⟩ : ∃ z, T160.heap = z := ⟨_, rfl⟩
        rw [e160] at hQ160
        obtain ⟨rfl, N160q, he160⟩ := hQ160
        have N160 := Fr.app N139 N160q
        rw [he160] at e160
        refine go_tr st160 ?_
        show Go _ _ _ _ (T160.setTop (mkF m 240 #[iv p0, iv p1, iv p2, iv 0, iv 1, iv q1, iv q2, iv (48 + q1), iv (48 + q2), rv b3, rv sa_10, rv sa_22, rv sa_114, rv sa_120, rv sa_123, rv sa_126] [(.int 1)]))
        refine go_st (fun t k => XS.ifNo X160.here hx rfl (hb hby at_240) rfl ((if0 _ _).trans (feq ((by decide) : ¬ ((1 : Int32) = (0 : Int32)))).1) k) ?_
        show Go _ _ _ _ (T160.setTop (mkF m 243 #[iv p0, iv p1, iv p2, iv 0, iv 1, iv q1, iv q2, iv (48 + q1), iv (48 + q2), rv b3, rv sa_10, rv sa_22, rv sa_114, rv sa_120, rv sa_123, rv sa_126] []))
        refine go_st (fun t k => XS.aload X160.here hx rfl (hb hby at_243) rfl rfl k) ?_
        refine go_st (fun t k => XS.aload X160.here hx rfl (hb hby at_245) rfl rfl k) ?_
        show Go _ _ _ _ (T160.setTop (mkF m 247 #[iv p0, iv p1, iv p2, iv 0, iv 1, iv q1, iv q2, iv (48 + q1), iv (48 + q2), rv b3, rv sa_10, rv sa_22, rv sa_114, rv sa_120, rv sa_123, rv sa_126] [(.ref sa_126), (.ref sa_114)]))
        have f161 : Exa Z h126 sa_114 cST := (((p114_2.keep K120).keep K123).keep K126)
        have sz162 : h7.size ≤ h22.size := (Nat.le_trans sz144 K22.1)
        have sz163 : h7.size ≤ h111.size := (Nat.le_trans sz162 K111.1)
        have nq164 : sb_7 ≠ sa_114 := Nat.ne_of_lt (Nat.lt_of_lt_of_le (Nat.lt_of_lt_of_le p7_5.lt sz163) lf114_0)
        have f165 : Fld Z h126 sa_114 cST "value" "[B" (.ref ta_114) := (((p114_3.keep K120 (ninS (Ne.symm nq164) nin0)).keep K123 nin0).keep K126 nin0)
        have f166 : Fld Z h126 sa_114 cST "coder" "B" (.int 0) := (((p114_4.keep K120 (ninS (Ne.symm nq164) nin0)).keep K123 nin0).keep K126 nin0)
        have nq167 : sb_7 ≠ ta_114 := Nat.ne_of_lt (Nat.lt_of_lt_of_le (Nat.lt_of_lt_of_le p7_5.lt sz163) lf114_1)
        have f168 : Arv Z h126 ta_114 kt_114 .byte (1 : Int32) [(.int (48 + q2))] (.int (0 : Int32)) := (((p114_5.keep K120 (ninS (Ne.symm nq167) nin0)).keep K123 nin0).keep K126 nin0)
        have sz169 : h114.size ≤ h123.size := (Nat.le_trans K120.1 K123.1)
        have nq170 : sa_114 ≠ sa_126 := Nat.ne_of_lt (Nat.lt_of_lt_of_le (Nat.lt_of_lt_of_le p114_2.lt sz169) lf126_0)
        obtain ⟨cq171, kq171, q171a, q171b, q171c⟩ := isOf hZ e160 f161
        obtain ⟨_, _, ⟨T171, L171, kk171, nn171⟩, -, X171, ⟨Lc171, hQ171, lq171, yq171, zq171⟩, st171⟩ := X160.virtualBack hx (y := mn30) (z := mn30) hown (mvT hZ (w166 hw)) (mvT hZ (w167 hw)) (nf_same (y := mn30) (y' := mn29) (a0 := #[]) rfl (mvT hZ (w163 hw)) (notFace_of_selects (args := #[]) (mvT hZ (w164 hw)))) (mvT hZ (w169 hw)) (mvT hZ (w168 hw)) (by decide) (backOf (W := 0) (rm_seq1 l Z a0 hw [] sa_114 ta_114 kt_114 (48 + q2) sa_126 ta_126 kt_126 (nar .byte ((48 + q2).toInt8.toInt32)) G1 h126 n0 (Nat.le_trans Z0 sz138) f161 f165 f166 f168 p126_2 p126_3 p126_4 p126_5 nq170 (dg_all (P := fun q2 => (48 + q2) = (nar .byte ((48 + q2).toInt8.toInt32))) hq2 (by decide +kernel)) CS CSn oe137) hZ (w170 hw) (w24 hw) (by decide) (by decide)) q171a q171c (g := (mkF m 247 #[iv p0, iv p1, iv p2, iv 0, iv 1, iv q1, iv q2, iv (48 + q1), iv (48 + q2), rv b3, rv sa_10, rv sa_22, rv sa_114, rv sa_120, rv sa_123, rv sa_126] [(.ref sa_126), (.ref sa_114)])) rfl (by rw [hml]; rfl) (Steps.refl _) (argsL := [(.ref sa_126)]) (rest := []) (lenOf pd_20 rfl) rfl (by show 2 * 0 + _ ≤ _; exact Nat.le_of_eq rfl) (hb hby at_247) (fun _ _ => ⟨rfl, e160, (by decide : 15 + 0 ≤ _), (by decide : 50 + 0 ≤ _)⟩)
        dsimp only [Pt.U, Pt.locs, Pt.cells, Pt.slots] at X171 lq171 yq171 zq171 st171 hQ171
        subst lq171 yq171 zq171
        obtain ⟨h171, e171⟩ : ∃ z, T171.heap = z := ⟨_, rfl⟩
        rw [e171] at hQ171
        obtain ⟨rfl, N171q, he171⟩ := hQ171
        have N171 := Fr.app N160 N171q
        rw [he171] at e171
        refine go_tr st171 ?_
        show Go _ _ _ _ (T171.setTop (mkF m 250 #[iv p0, iv p1, iv p2, iv 0, iv 1, iv q1, iv q2, iv (48 + q1), iv (48 + q2), rv b3, rv sa_10, rv sa_22, rv sa_114, rv sa_120, rv sa_123, rv sa_126] [(.int 1)]))
        refine go_st (fun t k => XS.ifNo X171.here hx rfl (hb hby at_250) rfl ((if0 _ _).trans (feq ((by decide) : ¬ ((1 : Int32) = (0 : Int32)))).1) k) ?_
        show Go _ _ _ _ (T171.setTop (mkF m 253 #[iv p0, iv p1, iv p2, iv 0, iv 1, iv q1, iv q2, iv (48 + q1), iv (48 + q2), rv b3, rv sa_10, rv sa_22, rv sa_114, rv sa_120, rv sa_123, rv sa_126] []))
        refine go_st (fun t k => XS.aload X171.here hx rfl (hb hby at_253) rfl rfl k) ?_
        show Go _ _ _ _ (T171.setTop (mkF m 255 #[iv p0, iv p1, iv p2, iv 0, iv 1, iv q1, iv q2, iv (48 + q1), iv (48 + q2), rv b3, rv sa_10, rv sa_22, rv sa_114, rv sa_120, rv sa_123, rv sa_126] [(.ref sa_120)]))
        have f172 : Exa Z h126 sa_120 cST := ((p120_2.keep K123).keep K126)
        have f173 : Fld Z h126 sa_120 cST "value" "[B" (.ref ta_120) := ((p120_3.keep K123 nin0).keep K126 nin0)
        have f174 : Fld Z h126 sa_120 cST "coder" "B" (.int 0) := ((p120_4.keep K123 nin0).keep K126 nin0)
        have f175 : Arv Z h126 ta_120 kt_120 .byte (0 : Int32) [] (.int (0 : Int32)) := ((p120_5.keep K123 nin0).keep K126 nin0)
        obtain ⟨cq176, kq176, q176a, q176b, q176c⟩ := isOf hZ e171 f172
        obtain ⟨_, _, ⟨T176, L176, kk176, nn176⟩, -, X176, ⟨Lc176, hQ176, lq176, yq176, zq176⟩, st176⟩ := X171.virtualBack hx (y := mn29) (z := mn29) hown (mvT hZ (w161 hw)) (mvT hZ (w162 hw)) (notFace_of_selects (args := #[]) (mvT hZ (w164 hw))) (mvT hZ (w164 hw)) (mvT hZ (w163 hw)) (by decide) (backOf (W := 0) (rm_sisEmpty0 l Z a0 hw [] sa_120 ta_120 kt_120 G1 h126 n0 (Nat.le_trans Z0 sz138) f172 f173 f174 f175 CS CSn oe137) hZ (w165 hw) (w24 hw) (by decide) (by decide)) q176a q176c (g := (mkF m 255 #[iv p0, iv p1, iv p2, iv 0, iv 1, iv q1, iv q2, iv (48 + q1), iv (48 + q2), rv b3, rv sa_10, rv sa_22, rv sa_114, rv sa_120, rv sa_123, rv sa_126] [(.ref sa_120)])) rfl (by rw [hml]; rfl) (Steps.refl _) (argsL := []) (rest := []) (lenOf pd_4 rfl) rfl (by show 2 * 0 + _ ≤ _; exact Nat.le_of_eq rfl) (hb hby at_255) (fun _ _ => ⟨rfl, e171, (by decide : 15 + 0 ≤ _), (by decide : 50 + 0 ≤ _)⟩)
        dsimp only [Pt.U, Pt.locs, Pt.cells, Pt.slots] at X176 lq176 yq176 zq176 st176 hQ176
        subst lq176 yq176 zq176
        obtain ⟨h176, e176⟩ : ∃ z, T176.heap = z := ⟨_, rfl⟩
        rw [e176] at hQ176
        obtain ⟨rfl, N176q, he176⟩ := hQ176
        have N176 := Fr.app N171 N176q
        rw [he176] at e176
        refine go_tr st176 ?_
        show Go _ _ _ _ (T176.setTop (mkF m 258 #[iv p0, iv p1, iv p2, iv 0, iv 1, iv q1, iv q2, iv (48 + q1), iv (48 + q2), rv b3, rv sa_10, rv sa_22, rv sa_114, rv sa_120, rv sa_123, rv sa_126] [(.int 1)]))
        refine go_st (fun t k => XS.ifNo X176.here hx rfl (hb hby at_258) rfl ((if0 _ _).trans (feq ((by decide) : ¬ ((1 : Int32) = (0 : Int32)))).1) k) ?_
        show Go _ _ _ _ (T176.setTop (mkF m 261 #[iv p0, iv p1, iv p2, iv 0, iv 1, iv q1, iv q2, iv (48 + q1), iv (48 + q2), rv b3, rv sa_10, rv sa_22, rv sa_114, rv sa_120, rv sa_123, rv sa_126] []))
        refine go_st (fun t k => XS.iconst X176.here hx rfl (hb hby at_261) k) ?_
        refine go_st (fun t k => XS.goto X176.here hx rfl (pc0 := 262) (pc' := 266) rfl (hb hby at_262) (by decide) (by decide) k) ?_
        show Go _ _ _ _ (T176.setTop (mkF m 266 #[iv p0, iv p1, iv p2, iv 0, iv 1, iv q1, iv q2, iv (48 + q1), iv (48 + q2), rv b3, rv sa_10, rv sa_22, rv sa_114, rv sa_120, rv sa_123, rv sa_126] [(.int 1)]))
        subst hPP
        have ke177 : Keep h0 h3 [] := (Keep.ext (Keep.refl h0 []) E3)
        have ke178 : Keep h0 h7 [] := (Keep.trans ke177 K7 (allS (Or.inr (Nat.le_of_eq gq3.symm)) all0))
        have ke179 : Keep h0 h10 [] := (Keep.trans ke178 K10 (allS (Or.inr (Nat.le_trans E3.1 lf7_0)) all0))
        have ke180 : Keep h0 h19 [] := (Keep.trans ke179 K19 (allS (Or.inr (Nat.le_trans E3.1 lf7_0)) (allS (Or.inr (Nat.le_trans E3.1 lf7_1)) (allS (Or.inr (Nat.le_of_eq gq3.symm)) all0))))
        have ke181 : Keep h0 h22 [] := (Keep.trans ke180 K22 (allS (Or.inr (Nat.le_trans E3.1 lf7_0)) all0))
        have ke182 : Keep h0 h111 [] := (Keep.trans ke181 K111 (allS (Or.inr (Nat.le_trans E3.1 lf7_0)) (allS (Or.inr (Nat.le_trans E3.1 lf7_1)) (allS (Or.inr (Nat.le_of_eq gq3.symm)) all0))))
        have ke183 : Keep h0 h114 [] := (Keep.trans ke182 K114 (allS (Or.inr (Nat.le_trans E3.1 lf7_0)) all0))
        have ke184 : Keep h0 h120 [] := (Keep.trans ke183 K120 (allS (Or.inr (Nat.le_trans E3.1 lf7_0)) all0))
        have ke185 : Keep h0 h123 [] := (Keep.trans ke184 K123 all0)
        have ke186 : Keep h0 h126 [] := (Keep.trans ke185 K126 all0)
        obtain ⟨fs, hr, hrun, hended, hW, hsame⟩ := X176.leave (v := some (.int 1)) (fun h => by rw [Bd.returns] at h; cases h)
        refine ⟨_, _, ?_, hrun, hended, _, _, rfl, ?_, ⟨_, rfl⟩, hW, hsame.mono (by decide) (by decide)⟩
        · exact retN X176 hx (t := .boolean) Bd.returns (by simp) (hb hby at_266) hr
        · show Q_law _ _ _ _ _ _ _ _ _ _ T176.heap _
          rw [e176]
          exact ⟨rfl, N176, ke186⟩
    by_cases hc187 : (p0 &&& (2 : Int32)) = (0 : Int32)
    · skip
      refine go_st (fun t k => XS.ifYes X0.here hx rfl (pc0 := 15) (pc' := 22) rfl (hb hby at_15) rfl ((if0 _ _).trans (teq (hc187 : (p0 &&& (2 : Int32)) = (0 : Int32))).1) (by decide) (by decide) k) ?_
      show Go _ _ _ _ (s₁.setTop (mkF m 22 #[iv p0, iv p1, iv p2, iv 0, .unset, .unset, .unset, .unset, .unset, .unset, .unset, .unset, .unset, .unset, .unset, .unset] []))
      refine go_st (fun t k => XS.iconst X0.here hx rfl (hb hby at_22) k) ?_
      show Go _ _ _ _ (s₁.setTop (mkF m 23 #[iv p0, iv p1, iv p2, iv 0, .unset, .unset, .unset, .unset, .unset, .unset, .unset, .unset, .unset, .unset, .unset, .unset] [(.int 0)]))
      exact j2 _ _ (0 : Int32) X0 N0 e0 (Or.inl rfl)
    · skip
      refine go_st (fun t k => XS.ifNo X0.here hx rfl (hb hby at_15) rfl ((if0 _ _).trans (feq (hc187 : ¬ ((p0 &&& (2 : Int32)) = (0 : Int32)))).1) k) ?_
      show Go _ _ _ _ (s₁.setTop (mkF m 18 #[iv p0, iv p1, iv p2, iv 0, .unset, .unset, .unset, .unset, .unset, .unset, .unset, .unset, .unset, .unset, .unset, .unset] []))
      refine go_st (fun t k => XS.iconst X0.here hx rfl (hb hby at_18) k) ?_
      refine go_st (fun t k => XS.goto X0.here hx rfl (pc0 := 19) (pc' := 23) rfl (hb hby at_19) (by decide) (by decide) k) ?_
      show Go _ _ _ _ (s₁.setTop (mkF m 23 #[iv p0, iv p1, iv p2, iv 0, .unset, .unset, .unset, .unset, .unset, .unset, .unset, .unset, .unset, .unset, .unset, .unset] [(.int 1)]))
      exact j2 _ _ (1 : Int32) X0 N0 e0 (Or.inr rfl)
  · skip
    refine go_st (fun t k => XS.ifNo X0.here hx rfl (hb hby at_3) rfl ((if0 _ _).trans (feq (hc1 : ¬ ((p0 &&& (1 : Int32)) = (0 : Int32)))).1) k) ?_
    show Go _ _ _ _ (s₁.setTop (mkF m 6 #[iv p0, iv p1, iv p2, .unset, .unset, .unset, .unset, .unset, .unset, .unset, .unset, .unset, .unset, .unset, .unset, .unset] []))
    refine go_st (fun t k => XS.iconst X0.here hx rfl (hb hby at_6) k) ?_
    refine go_st (fun t k => XS.goto X0.here hx rfl (pc0 := 7) (pc' := 11) rfl (hb hby at_7) (by decide) (by decide) k) ?_
    show Go _ _ _ _ (s₁.setTop (mkF m 11 #[iv p0, iv p1, iv p2, .unset, .unset, .unset, .unset, .unset, .unset, .unset, .unset, .unset, .unset, .unset, .unset, .unset] [(.int 1)]))
    refine go_st (fun t k => XS.istoreN X0.here hx rfl (hb hby at_11) rfl (l' := #[iv p0, iv p1, iv p2, iv 1, .unset, .unset, .unset, .unset, .unset, .unset, .unset, .unset, .unset, .unset, .unset, .unset]) rfl k) ?_
    refine go_st (fun t k => XS.iloadN X0.here hx rfl (hb hby at_12) rfl k) ?_
    refine go_st (fun t k => XS.iconst X0.here hx rfl (hb hby at_13) k) ?_
    refine go_st (fun t k => XS.iand X0.here hx rfl (hb hby at_14) rfl k) ?_
    show Go _ _ _ _ (s₁.setTop (mkF m 15 #[iv p0, iv p1, iv p2, iv 1, .unset, .unset, .unset, .unset, .unset, .unset, .unset, .unset, .unset, .unset, .unset, .unset] [(.int (p0 &&& (2 : Int32)))]))
    have j188 : ∀ (T : State) (L : List Loc) (vs_ : Int32), Stand p l e room_1 s m #[(.int p0), (.int p1), (.int p2)] below meth c T L 0 0 → Fr n0 L → T.heap = h0 → (vs_ = (0 : Int32) ∨ vs_ = (1 : Int32)) → Go p.tables e below PP (T.setTop (mkF m 23 #[iv p0, iv p1, iv p2, iv 1, .unset, .unset, .unset, .unset, .unset, .unset, .unset, .unset, .unset, .unset, .unset, .unset] [(.int vs_)])) := by
      intro T188 L188 vs_ X188 N188 e188 hvs
      show Go _ _ _ _ (T188.setTop (mkF m 23 #[iv p0, iv p1, iv p2, iv 1, .unset, .unset, .unset, .unset, .unset, .unset, .unset, .unset, .unset, .unset, .unset, .unset] [(.int vs_)]))
      refine go_st (fun t k => XS.istore X188.here hx rfl (hb hby at_23) rfl (l' := #[iv p0, iv p1, iv p2, iv 1, iv vs_, .unset, .unset, .unset, .unset, .unset, .unset, .unset, .unset, .unset, .unset, .unset]) rfl k) ?_
      refine go_st (fun t k => XS.iloadN X188.here hx rfl (hb hby at_25) rfl k) ?_
      show Go _ _ _ _ (T188.setTop (mkF m 26 #[iv p0, iv p1, iv p2, iv 1, iv vs_, .unset, .unset, .unset, .unset, .unset, .unset, .unset, .unset, .unset, .unset, .unset] [(.int p1)]))
      refine go_st (fun t k => X188.ldcInt hx hown (mvT hZ (w0 hw)) (g := (mkF m 26 #[iv p0, iv p1, iv p2, iv 1, iv vs_, .unset, .unset, .unset, .unset, .unset, .unset, .unset, .unset, .unset, .unset, .unset] [(.int p1)])) rfl (hb hby at_26) t k) ?_
      refine go_st (fun t k => XS.iand X188.here hx rfl (hb hby at_28) rfl k) ?_
      refine go_st (fun t k => XS.bipush X188.here hx rfl (hb hby at_29) k) ?_
      show Go _ _ _ _ (T188.setTop (mkF m 31 #[iv p0, iv p1, iv p2, iv 1, iv vs_, .unset, .unset, .unset, .unset, .unset, .unset, .unset, .unset, .unset, .unset, .unset] [(.int 10), (.int (p1 &&& (2147483647 : Int32)))]))
      refine go_st (fun t k => iremM X188 hx rfl (hb hby at_31) rfl (by decide) k) ?_
      show Go _ _ _ _ (T188.setTop (mkF m 32 #[iv p0, iv p1, iv p2, iv 1, iv vs_, .unset, .unset, .unset, .unset, .unset, .unset, .unset, .unset, .unset, .unset, .unset] [(.int ((p1 &&& (2147483647 : Int32)) % (10 : Int32)))]))
      obtain ⟨q1, h_q1⟩ : ∃ z, z = ((p1 &&& (2147483647 : Int32)) % (10 : Int32)) := ⟨_, rfl⟩
      rw [← h_q1]
      show Go _ _ _ _ (T188.setTop (mkF m 32 #[iv p0, iv p1, iv p2, iv 1, iv vs_, .unset, .unset, .unset, .unset, .unset, .unset, .unset, .unset, .unset, .unset, .unset] [(.int q1)]))
      have hq1 : Dg q1 := by rw [h_q1]; exact rem10 _
      refine go_st (fun t k => XS.istore X188.here hx rfl (hb hby at_32) rfl (l' := #[iv p0, iv p1, iv p2, iv 1, iv vs_, iv q1, .unset, .unset, .unset, .unset, .unset, .unset, .unset, .unset, .unset, .unset]) rfl k) ?_
      refine go_st (fun t k => XS.iloadN X188.here hx rfl (hb hby at_34) rfl k) ?_
      show Go _ _ _ _ (T188.setTop (mkF m 35 #[iv p0, iv p1, iv p2, iv 1, iv vs_, iv q1, .unset, .unset, .unset, .unset, .unset, .unset, .unset, .unset, .unset, .unset] [(.int p2)]))
      refine go_st (fun t k => X188.ldcInt hx hown (mvT hZ (w0 hw)) (g := (mkF m 35 #[iv p0, iv p1, iv p2, iv 1, iv vs_, iv q1, .unset, .unset, .unset, .unset, .unset, .unset, .unset, .unset, .unset, .unset] [(.int p2)])) rfl (hb hby at_35) t k) ?_
      refine go_st (fun t k => XS.iand X188.here hx rfl (hb hby at_37) rfl k) ?_
      refine go_st (fun t k => XS.bipush X188.here hx rfl (hb hby at_38) k) ?_
      show Go _ _ _ _ (T188.setTop (mkF m 40 #[iv p0, iv p1, iv p2, iv 1, iv vs_, iv q1, .unset, .unset, .unset, .unset, .unset, .unset, .unset, .unset, .unset, .unset] [(.int 10), (.int (p2 &&& (2147483647 : Int32)))]))
      refine go_st (fun t k => iremM X188 hx rfl (hb hby at_40) rfl (by decide) k) ?_
      show Go _ _ _ _ (T188.setTop (mkF m 41 #[iv p0, iv p1, iv p2, iv 1, iv vs_, iv q1, .unset, .unset, .unset, .unset, .unset, .unset, .unset, .unset, .unset, .unset] [(.int ((p2 &&& (2147483647 : Int32)) % (10 : Int32)))]))
      obtain ⟨q2, h_q2⟩ : ∃ z, z = ((p2 &&& (2147483647 : Int32)) % (10 : Int32)) := ⟨_, rfl⟩
      rw [← h_q2]
      show Go _ _ _ _ (T188.setTop (mkF m 41 #[iv p0, iv p1, iv p2, iv 1, iv vs_, iv q1, .unset, .unset, .unset, .unset, .unset, .unset, .unset, .unset, .unset, .unset] [(.int q2)]))
      have hq2 : Dg q2 := by rw [h_q2]; exact rem10 _
      refine go_st (fun t k => XS.istore X188.here hx rfl (hb hby at_41) rfl (l' := #[iv p0, iv p1, iv p2, iv 1, iv vs_, iv q1, iv q2, .unset, .unset, .unset, .unset, .unset, .unset, .unset, .unset, .unset]) rfl k) ?_
      refine go_st (fun t k => XS.bipush X188.here hx rfl (hb hby at_43) k) ?_
      refine go_st (fun t k => XS.iload X188.here hx rfl (hb hby at_45) rfl k) ?_
      refine go_st (fun t k => XS.iadd X188.here hx rfl (hb hby at_47) rfl k) ?_
      refine go_st (fun t k => XS.i2c X188.here hx rfl (hb hby at_48) rfl k) ?_
      show Go _ _ _ _ (T188.setTop (mkF m 49 #[iv p0, iv p1, iv p2, iv 1, iv vs_, iv q1, iv q2, .unset, .unset, .unset, .unset, .unset, .unset, .unset, .unset, .unset] [(.int ((((48 : Int32) + q1)).toUInt32.toUInt16.toUInt32.toInt32))]))
      rw [show ((((48 : Int32) + q1)).toUInt32.toUInt16.toUInt32.toInt32) = (48 + q1) from (dg_all (P := fun q1 => ((((48 : Int32) + q1)).toUInt32.toUInt16.toUInt32.toInt32) = (48 + q1)) hq1 (by decide +kernel))]
      show Go _ _ _ _ (T188.setTop (mkF m 49 #[iv p0, iv p1, iv p2, iv 1, iv vs_, iv q1, iv q2, .unset, .unset, .unset, .unset, .unset, .unset, .unset, .unset, .unset] [(.int (48 + q1))]))
      refine go_st (fun t k => XS.istore X188.here hx rfl (hb hby at_49) rfl (l' := #[iv p0, iv p1, iv p2, iv 1, iv vs_, iv q1, iv q2, iv (48 + q1), .unset, .unset, .unset, .unset, .unset, .unset, .unset, .unset]) rfl k) ?_
      refine go_st (fun t k => XS.bipush X188.here hx rfl (hb hby at_51) k) ?_
      refine go_st (fun t k => XS.iload X188.here hx rfl (hb hby at_53) rfl k) ?_
      refine go_st (fun t k => XS.iadd X188.here hx rfl (hb hby at_55) rfl k) ?_
      refine go_st (fun t k => XS.i2c X188.here hx rfl (hb hby at_56) rfl k) ?_
      show Go _ _ _ _ (T188.setTop (mkF m 57 #[iv p0, iv p1, iv p2, iv 1, iv vs_, iv q1, iv q2, iv (48 + q1), .unset, .unset, .unset, .unset, .unset, .unset, .unset, .unset] [(.int ((((48 : Int32) + q2)).toUInt32.toUInt16.toUInt32.toInt32))]))
      rw [show ((((48 : Int32) + q2)).toUInt32.toUInt16.toUInt32.toInt32) = (48 + q2) from (dg_all (P := fun q2 => ((((48 : Int32) + q2)).toUInt32.toUInt16.toUInt32.toInt32) = (48 + q2)) hq2 (by decide +kernel))]
      show Go _ _ _ _ (T188.setTop (mkF m 57 #[iv p0, iv p1, iv p2, iv 1, iv vs_, iv q1, iv q2, iv (48 + q1), .unset, .unset, .unset, .unset, .unset, .unset, .unset, .unset] [(.int (48 + q2))]))
      refine go_st (fun t k => XS.istore X188.here hx rfl (hb hby at_57) rfl (l' := #[iv p0, iv p1, iv p2, iv 1, iv vs_, iv q1, iv q2, iv (48 + q1), iv (48 + q2), .unset, .unset, .unset, .unset, .unset, .unset, .unset]) rfl k) ?_
      show Go _ _ _ _ (T188.setTop (mkF m 59 #[iv p0, iv p1, iv p2, iv 1, iv vs_, iv q1, iv q2, iv (48 + q1), iv (48 + q2), .unset, .unset, .unset, .unset, .unset, .unset, .unset] []))
      obtain ⟨T189, h189, X189, e189, E189, A189, D189, -, st189⟩ := newO X188 hx hZ hown (w1 hw) (w2 hw) (w3 hw) e188 (g := (mkF m 59 #[iv p0, iv p1, iv p2, iv 1, iv vs_, iv q1, iv q2, iv (48 + q1), iv (48 + q2), .unset, .unset, .unset, .unset, .unset, .unset, .unset] [])) rfl (hb hby at_59) (by decide) (by decide)
      obtain ⟨b189, gq189⟩ : ∃ z, z = h0.size := ⟨_, rfl⟩
      rw [← gq189] at A189 D189 st189
      have f190 : Fld Z h189 b189 cJW "text" "Ljava/lang/StringBuilder;" .null := D189 (Or.inr (w31 hw)) (ty := (.object "java/lang/StringBuilder")) (by decide)
      have f191 : Fld Z h189 b189 cJW "afterValue" "Z" (.int 0) := D189 (Or.inl (w123 hw)) (ty := .boolean) (by decide)
      refine go_st (fun t k => st189 t k) ?_
      refine go_st (fun t k => XS.dup X189.here hx rfl (hb hby at_62) rfl rfl k) ?_
      show Go _ _ _ _ (T189.setTop (mkF m 63 #[iv p0, iv p1, iv p2, iv 1, iv vs_, iv q1, iv q2, iv (48 + q1), iv (48 + q2), .unset, .unset, .unset, .unset, .unset, .unset, .unset] [(.ref b189), (.ref b189)]))
      have g_b189 : n0 ≤ b189 := Nat.le_trans (Nat.le_trans Z0 (Nat.le_refl _)) (Nat.le_of_eq gq189.symm)
      have oe192 : Old Z n0 h189 := (Old.ext O0 E189)
      obtain ⟨_, _, ⟨T193, L193, kk193, nn193⟩, -, X193, ⟨Lc193, hQ193, lq193, yq193, zq193⟩, st193⟩ := X189.specialBack hx (y := mn0) rfl hown (mvT hZ (w4 hw)) (mvT hZ (w5 hw)) (mvT hZ (w6 hw)) (by decide) (backOf (W := 1) (rm_jinit l Z a0 hw [] b189 G1 h189 n0 (Nat.le_trans Z0 E189.1) A189 f190 f191 g_b189 CS CSn oe192) hZ (w6 hw) (w3 hw) (by decide) (by decide)) (g := (mkF m 63 #[iv p0, iv p1, iv p2, iv 1, iv vs_, iv q1, iv q2, iv (48 + q1), iv (48 + q2), .unset, .unset, .unset, .unset, .unset, .unset, .unset] [(.ref b189), (.ref b189)])) rfl (by rw [hml]; rfl) (Steps.refl _) (a := b189) (argsL := []) (rest := [(.ref b189)]) (lenOf pd_1 rfl) rfl (by show 2 * 0 + _ ≤ _; exact Nat.le_of_eq rfl) (hb hby at_63) (fun _ _ => ⟨rfl, e189, (by decide : 1 + 2 ≤ _), (by decide : 2 + 20 ≤ _)⟩)
      dsimp only [Pt.U, Pt.locs, Pt.cells, Pt.slots] at X193 lq193 yq193 zq193 st193 hQ193
      subst lq193 yq193 zq193
      obtain ⟨h193, e193⟩ : ∃ z, T193.heap = z := ⟨_, rfl⟩
      rw [e193] at hQ193
      obtain ⟨sb_193, va_193, kv_193, rfl, N193q, K193, gf193_0, lf193_0, gf193_1, lf193_1, p193_2, p193_3, p193_4, p193_5, p193_6, p193_7, p193_8, p193_9, p193_10⟩ := hQ193
      have N193 := Fr.app N188 N193q
      refine go_tr st193 ?_
      refine go_st (fun t k => XS.astore X193.here hx rfl (hb hby at_66) rfl rfl (l' := #[iv p0, iv p1, iv p2, iv 1, iv vs_, iv q1, iv q2, iv (48 + q1), iv (48 + q2), rv b189, .unset, .unset, .unset, .unset, .unset, .unset]) rfl k) ?_
      refine go_st (fun t k => XS.aload X193.here hx rfl (hb hby at_68) rfl rfl k) ?_
      show Go _ _ _ _ (T193.setTop (mkF m 70 #[iv p0, iv p1, iv p2, iv 1, iv vs_, iv q1, iv q2, iv (48 + q1), iv (48 + q2), rv b189, .unset, .unset, .unset, .unset, .unset, .unset] [(.ref b189)]))
      have oe194 : Old Z n0 h193 := (Old.keep oe192 K193 (allS g_b189 all0))
      have sz195 : h0.size ≤ h193.size := (Nat.le_trans E189.1 K193.1)
      obtain ⟨cq196, kq196, q196a, q196b, q196c⟩ := isOf hZ e193 p193_2
      obtain ⟨_, _, ⟨T196, L196, kk196, nn196⟩, -, X196, ⟨Lc196, hQ196, lq196, yq196, zq196⟩, st196⟩ := X193.virtualBack hx (y := mn3) (z := mn3) hown (mvT hZ (w32 hw)) (mvT hZ (w33 hw)) (notFace_of_selects (args := #[]) (mvT hZ (w35 hw))) (mvT hZ (w35 hw)) (mvT hZ (w34 hw)) (by decide) (backOf (W := 0) (rm_drain0 l Z a0 hw [] b189 sb_193 va_193 kv_193 (0 : Int32) (0 : Int32) (0 : Int32) G1 h193 n0 (Nat.le_trans Z0 sz195) p193_2 p193_3 p193_5 p193_6 p193_7 p193_8 p193_9 p193_10 gf193_0 CS CSn oe194) hZ (w36 hw) (w3 hw) (by decide) (by decide)) q196a q196c (g := (mkF m 70 #[iv p0, iv p1, iv p2, iv 1, iv vs_, iv q1, iv q2, iv (48 + q1), iv (48 + q2), rv b189, .unset, .unset, .unset, .unset, .unset, .unset] [(.ref b189)])) rfl (by rw [hml]; rfl) (Steps.refl _) (argsL := []) (rest := []) (lenOf pd_10 rfl) rfl (by show 2 * 0 + _ ≤ _; exact Nat.le_of_eq rfl) (hb hby at_70) (fun _ _ => ⟨rfl, e193, (by decide : 3 + 2 ≤ _), (by decide : 22 + 4 ≤ _)⟩)
      dsimp only [Pt.U, Pt.locs, Pt.cells, Pt.slots] at X196 lq196 yq196 zq196 st196 hQ196
      subst lq196 yq196 zq196
      obtain ⟨h196, e196⟩ : ∃ z, T196.heap = z := ⟨_, rfl⟩
      rw [e196] at hQ196
      obtain ⟨sa_196, ta_196, kt_196, rfl, N196q, K196, gf196_0, lf196_0, gf196_1, lf196_1, p196_2, p196_3, p196_4, p196_5, p196_6, p196_7, p196_8, p196_9, p196_10⟩ := hQ196
      have N196 := Fr.app N193 N196q
      refine go_tr st196 ?_
      refine go_st (fun t k => XS.astore X196.here hx rfl (hb hby at_73) rfl rfl (l' := #[iv p0, iv p1, iv p2, iv 1, iv vs_, iv q1, iv q2, iv (48 + q1), iv (48 + q2), rv b189, rv sa_196, .unset, .unset, .unset, .unset, .unset]) rfl k) ?_
      refine go_st (fun t k => XS.aload X196.here hx rfl (hb hby at_75) rfl rfl k) ?_
      show Go _ _ _ _ (T196.setTop (mkF m 77 #[iv p0, iv p1, iv p2, iv 1, iv vs_, iv q1, iv q2, iv (48 + q1), iv (48 + q2), rv b189, rv sa_196, .unset, .unset, .unset, .unset, .unset] [(.ref b189)]))
      have f197 : Exa Z h196 b189 cJW := (p193_2.keep K196)
      have nq198 : b189 ≠ sb_193 := Nat.ne_of_lt (Nat.lt_of_lt_of_le (Nat.lt_of_lt_of_le A189.lt (Nat.le_refl _)) lf193_0)
      have f199 : Fld Z h196 b189 cJW "text" "Ljava/lang/StringBuilder;" (.ref sb_193) := (p193_3.keep K196 (ninS nq198 nin0))
      have f200 : Fld Z h196 b189 cJW "afterValue" "Z" (.int 0) := (p193_4.keep K196 (ninS nq198 nin0))
      have nq201 : va_193 ≠ sb_193 := Ne.symm (Exa.neArv p193_5 p193_10 (w11 hw))
      have f202 : Arv Z h196 va_193 kv_193 .byte (16 : Int32) [(.int 0), (.int 0)] (.int (0 : Int32)) := (p193_10.keep K196 (ninS nq201 nin0))
      have oe203 : Old Z n0 h196 := (Old.keep oe194 K196 (allS gf193_0 all0))
      have sz204 : h0.size ≤ h196.size := (Nat.le_trans sz195 K196.1)
      obtain ⟨cq205, kq205, q205a, q205b, q205c⟩ := isOf hZ e196 f197
      obtain ⟨_, _, ⟨T205, L205, kk205, nn205⟩, -, X205, ⟨Lc205, hQ205, lq205, yq205, zq205⟩, st205⟩ := X196.virtualBack hx (y := mn18) (z := mn18) hown (mvT hZ (w109 hw)) (mvT hZ (w110 hw)) (nf_same (y := mn18) (y' := mn3) (a0 := #[]) rfl (mvT hZ (w34 hw)) (notFace_of_selects (args := #[]) (mvT hZ (w35 hw)))) (mvT hZ (w112 hw)) (mvT hZ (w111 hw)) (by decide) (backOf (W := 0) (rm_start l Z a0 hw [] b189 sb_193 va_193 kv_193 (0 : Int32) (0 : Int32) (0 : Int32) G1 h196 n0 (Nat.le_trans Z0 sz204) f197 f199 f200 p196_6 p196_7 p196_8 p196_9 p196_10 f202 gf193_0 gf193_1 g_b189 CS CSn oe203) hZ (w113 hw) (w3 hw) (by decide) (by decide)) q205a q205c (g := (mkF m 77 #[iv p0, iv p1, iv p2, iv 1, iv vs_, iv q1, iv q2, iv (48 + q1), iv (48 + q2), rv b189, rv sa_196, .unset, .unset, .unset, .unset, .unset] [(.ref b189)])) rfl (by rw [hml]; rfl) (Steps.refl _) (argsL := []) (rest := []) (lenOf pd_15 rfl) rfl (by show 2 * 0 + _ ≤ _; exact Nat.le_of_eq rfl) (hb hby at_77) (fun _ _ => ⟨rfl, e196, (by decide : 5 + 0 ≤ _), (by decide : 26 + 0 ≤ _)⟩)
      dsimp only [Pt.U, Pt.locs, Pt.cells, Pt.slots] at X205 lq205 yq205 zq205 st205 hQ205
      subst lq205 yq205 zq205
      obtain ⟨h205, e205⟩ : ∃ z, T205.heap = z := ⟨_, rfl⟩
      rw [e205] at hQ205
      obtain ⟨rfl, N205q, K205, p205_0, p205_1, p205_2, p205_3, p205_4, p205_5, p205_6, p205_7, p205_8⟩ := hQ205
      have N205 := Fr.app N196 N205q
      refine go_tr st205 ?_
      show Go _ _ _ _ (T205.setTop (mkF m 80 #[iv p0, iv p1, iv p2, iv 1, iv vs_, iv q1, iv q2, iv (48 + q1), iv (48 + q2), rv b189, rv sa_196, .unset, .unset, .unset, .unset, .unset] [(.ref b189)]))
      refine go_st (fun t k => XS.pop X205.here hx rfl (hb hby at_80) rfl rfl k) ?_
      refine go_st (fun t k => XS.iloadN X205.here hx rfl (hb hby at_81) rfl k) ?_
      show Go _ _ _ _ (T205.setTop (mkF m 82 #[iv p0, iv p1, iv p2, iv 1, iv vs_, iv q1, iv q2, iv (48 + q1), iv (48 + q2), rv b189, rv sa_196, .unset, .unset, .unset, .unset, .unset] [(.int 1)]))
      refine go_st (fun t k => XS.ifNo X205.here hx rfl (hb hby at_82) rfl ((if0 _ _).trans (feq ((by decide) : ¬ ((1 : Int32) = (0 : Int32)))).1) k) ?_
      show Go _ _ _ _ (T205.setTop (mkF m 85 #[iv p0, iv p1, iv p2, iv 1, iv vs_, iv q1, iv q2, iv (48 + q1), iv (48 + q2), rv b189, rv sa_196, .unset, .unset, .unset, .unset, .unset] []))
      refine go_st (fun t k => XS.aload X205.here hx rfl (hb hby at_85) rfl rfl k) ?_
      refine go_st (fun t k => XS.iload X205.here hx rfl (hb hby at_87) rfl k) ?_
      show Go _ _ _ _ (T205.setTop (mkF m 89 #[iv p0, iv p1, iv p2, iv 1, iv vs_, iv q1, iv q2, iv (48 + q1), iv (48 + q2), rv b189, rv sa_196, .unset, .unset, .unset, .unset, .unset] [(.int q1), (.ref b189)]))
      refine go_st (fun t k => XS.i2l X205.here hx rfl (hb hby at_89) rfl k) ?_
      show Go _ _ _ _ (T205.setTop (mkF m 90 #[iv p0, iv p1, iv p2, iv 1, iv vs_, iv q1, iv q2, iv (48 + q1), iv (48 + q2), rv b189, rv sa_196, .unset, .unset, .unset, .unset, .unset] [(.long ((q1).toInt64)), (.ref b189)]))
      have oe206 : Old Z n0 h205 := (Old.keep oe203 K205 (allS gf193_0 (allS gf193_1 (allS g_b189 all0))))
      have sz207 : h0.size ≤ h205.size := (Nat.le_trans sz204 K205.1)
      obtain ⟨cq208, kq208, q208a, q208b, q208c⟩ := isOf hZ e205 p205_0
      obtain ⟨_, _, ⟨T208, L208, kk208, nn208⟩, -, X208, ⟨Lc208, hQ208, lq208, yq208, zq208⟩, st208⟩ := X205.virtualBack hx (y := mn32) (z := mn32) hown (mvT hZ (w174 hw)) (mvT hZ (w175 hw)) (nf_same (y := mn32) (y' := mn3) (a0 := #[]) rfl (mvT hZ (w34 hw)) (notFace_of_selects (args := #[]) (mvT hZ (w35 hw)))) (mvT hZ (w177 hw)) (mvT hZ (w176 hw)) (by decide) (backOf (W := 0) (rm_number10 l Z a0 hw [] b189 sb_193 va_193 kv_193 (nar .byte ((91 : Int32).toInt8.toInt32)) (0 : Int32) (0 : Int32) q1 da dc G1 h205 n0 (Nat.le_trans Z0 sz207) p205_0 p205_1 p205_2 p205_3 p205_4 p205_5 p205_6 p205_7 p205_8 gf193_0 gf193_1 g_b189 hq1 DS DA DV CS CSn oe206) hZ (w178 hw) (w3 hw) (by decide) (by decide)) q208a q208c (g := (mkF m 90 #[iv p0, iv p1, iv p2, iv 1, iv vs_, iv q1, iv q2, iv (48 + q1), iv (48 + q2), rv b189, rv sa_196, .unset, .unset, .unset, .unset, .unset] [(.long ((q1).toInt64)), (.ref b189)])) rfl (by rw [hml]; rfl) (Steps.refl _) (argsL := [(.long ((q1).toInt64))]) (rest := []) (lenOf pd_25 rfl) rfl (by show 2 * 0 + _ ≤ _; exact Nat.le_of_eq rfl) (hb hby at_90) (fun _ _ => ⟨rfl, e205, (by decide : 5 + 0 ≤ _), (by decide : 26 + 0 ≤ _)⟩)
      dsimp only [Pt.U, Pt.locs, Pt.cells, Pt.slots] at X208 lq208 yq208 zq208 st208 hQ208
      subst lq208 yq208 zq208
      obtain ⟨h208, e208⟩ : ∃ z, T208.heap = z := ⟨_, rfl⟩
      rw [e208] at hQ208
      obtain ⟨rfl, N208q, K208, p208_0, p208_1, p208_2, p208_3, p208_4, p208_5, p208_6, p208_7, p208_8⟩ := hQ208
      have N208 := Fr.app N205 N208q
      refine go_tr st208 ?_
      show Go _ _ _ _ (T208.setTop (mkF m 93 #[iv p0, iv p1, iv p2, iv 1, iv vs_, iv q1, iv q2, iv (48 + q1), iv (48 + q2), rv b189, rv sa_196, .unset, .unset, .unset, .unset, .unset] [(.ref b189)]))
      refine go_st (fun t k => XS.pop X208.here hx rfl (hb hby at_93) rfl rfl k) ?_
      refine go_st (fun t k => XS.aload X208.here hx rfl (hb hby at_94) rfl rfl k) ?_
      show Go _ _ _ _ (T208.setTop (mkF m 96 #[iv p0, iv p1, iv p2, iv 1, iv vs_, iv q1, iv q2, iv (48 + q1), iv (48 + q2), rv b189, rv sa_196, .unset, .unset, .unset, .unset, .unset] [(.ref b189)]))
      have oe209 : Old Z n0 h208 := (Old.keep oe206 K208 (allS gf193_0 (allS gf193_1 (allS g_b189 all0))))
      have sz210 : h0.size ≤ h208.size := (Nat.le_trans sz207 K208.1)
      obtain ⟨cq211, kq211, q211a, q211b, q211c⟩ := isOf hZ e208 p208_0
      obtain ⟨_, _, ⟨T211, L211, kk211, nn211⟩, -, X211, ⟨Lc211, hQ211, lq211, yq211, zq211⟩, st211⟩ := X208.virtualBack hx (y := mn3) (z := mn3) hown (mvT hZ (w32 hw)) (mvT hZ (w33 hw)) (notFace_of_selects (args := #[]) (mvT hZ (w35 hw))) (mvT hZ (w35 hw)) (mvT hZ (w34 hw)) (by decide) (backOf (W := 0) (rm_drain2 l Z a0 hw [] b189 sb_193 va_193 kv_193 (nar .byte ((91 : Int32).toInt8.toInt32)) (48 + q1) (0 : Int32) G1 h208 n0 (Nat.le_trans Z0 sz210) p208_0 p208_1 p208_3 p208_4 p208_5 p208_6 p208_7 p208_8 gf193_0 CS CSn oe209) hZ (w36 hw) (w3 hw) (by decide) (by decide)) q211a q211c (g := (mkF m 96 #[iv p0, iv p1, iv p2, iv 1, iv vs_, iv q1, iv q2, iv (48 + q1), iv (48 + q2), rv b189, rv sa_196, .unset, .unset, .unset, .unset, .unset] [(.ref b189)])) rfl (by rw [hml]; rfl) (Steps.refl _) (argsL := []) (rest := []) (lenOf pd_10 rfl) rfl (by show 2 * 0 + _ ≤ _; exact Nat.le_of_eq rfl) (hb hby at_96) (fun _ _ => ⟨rfl, e208, (by decide : 5 + 2 ≤ _), (by decide : 26 + 6 ≤ _)⟩)
      dsimp only [Pt.U, Pt.locs, Pt.cells, Pt.slots] at X211 lq211 yq211 zq211 st211 hQ211
      subst lq211 yq211 zq211
      obtain ⟨h211, e211⟩ : ∃ z, T211.heap = z := ⟨_, rfl⟩
      rw [e211] at hQ211
      obtain ⟨sa_211, ta_211, kt_211, rfl, N211q, K211, gf211_0, lf211_0, gf211_1, lf211_1, p211_2, p211_3, p211_4, p211_5, p211_6, p211_7, p211_8, p211_9, p211_10⟩ := hQ211
      have N211 := Fr.app N208 N211q
      refine go_tr st211 ?_
      refine go_st (fun t k => XS.astore X211.here hx rfl (hb hby at_99) rfl rfl (l' := #[iv p0, iv p1, iv p2, iv 1, iv vs_, iv q1, iv q2, iv (48 + q1), iv (48 + q2), rv b189, rv sa_196, rv sa_211, .unset, .unset, .unset, .unset]) rfl k) ?_
      refine go_st (fun t k => XS.iload X211.here hx rfl (hb hby at_101) rfl k) ?_
      show Go _ _ _ _ (T211.setTop (mkF m 103 #[iv p0, iv p1, iv p2, iv 1, iv vs_, iv q1, iv q2, iv (48 + q1), iv (48 + q2), rv b189, rv sa_196, rv sa_211, .unset, .unset, .unset, .unset] [(.int vs_)]))
      rcases hvs with rfl | rfl
      · skip
        show Go _ _ _ _ (T211.setTop (mkF m 103 #[iv p0, iv p1, iv p2, iv 1, iv 0, iv q1, iv q2, iv (48 + q1), iv (48 + q2), rv b189, rv sa_196, rv sa_211, .unset, .unset, .unset, .unset] [(.int 0)]))
        refine go_st (fun t k => XS.ifYes X211.here hx rfl (pc0 := 103) (pc' := 118) rfl (hb hby at_103) rfl ((if0 _ _).trans (teq ((by decide) : (0 : Int32) = (0 : Int32))).1) (by decide) (by decide) k) ?_
        show Go _ _ _ _ (T211.setTop (mkF m 118 #[iv p0, iv p1, iv p2, iv 1, iv 0, iv q1, iv q2, iv (48 + q1), iv (48 + q2), rv b189, rv sa_196, rv sa_211, .unset, .unset, .unset, .unset] []))
        refine go_st (fun t k => XS.aload X211.here hx rfl (hb hby at_118) rfl rfl k) ?_
        show Go _ _ _ _ (T211.setTop (mkF m 120 #[iv p0, iv p1, iv p2, iv 1, iv 0, iv q1, iv q2, iv (48 + q1), iv (48 + q2), rv b189, rv sa_196, rv sa_211, .unset, .unset, .unset, .unset] [(.ref b189)]))
        have f212 : Exa Z h211 b189 cJW := (p208_0.keep K211)
        have f213 : Fld Z h211 b189 cJW "text" "Ljava/lang/StringBuilder;" (.ref sb_193) := (p208_1.keep K211 (ninS nq198 nin0))
        have f214 : Fld Z h211 b189 cJW "afterValue" "Z" (.int 1) := (p208_2.keep K211 (ninS nq198 nin0))
        have f215 : Arv Z h211 va_193 kv_193 .byte (16 : Int32) [(.int (nar .byte ((91 : Int32).toInt8.toInt32))), (.int (48 + q1))] (.int (0 : Int32)) := (p208_8.keep K211 (ninS nq201 nin0))
        have oe216 : Old Z n0 h211 := (Old.keep oe209 K211 (allS gf193_0 all0))
        have sz217 : h0.size ≤ h211.size := (Nat.le_trans sz210 K211.1)
        obtain ⟨cq218, kq218, q218a, q218b, q218c⟩ := isOf hZ e211 f212
        obtain ⟨_, _, ⟨T218, L218, kk218, nn218⟩, -, X218, ⟨Lc218, hQ218, lq218, yq218, zq218⟩, st218⟩ := X211.virtualBack hx (y := mn24) (z := mn24) hown (mvT hZ (w140 hw)) (mvT hZ (w141 hw)) (nf_same (y := mn24) (y' := mn3) (a0 := #[]) rfl (mvT hZ (w34 hw)) (notFace_of_selects (args := #[]) (mvT hZ (w35 hw)))) (mvT hZ (w143 hw)) (mvT hZ (w142 hw)) (by decide) (backOf (W := 0) (rm_end l Z a0 hw [] b189 (1 : Int32) sb_193 va_193 kv_193 (nar .byte ((91 : Int32).toInt8.toInt32)) (48 + q1) (1 : Int32) G1 h211 n0 (Nat.le_trans Z0 sz217) f212 f213 f214 p211_6 p211_7 p211_8 p211_9 p211_10 f215 gf193_0 gf193_1 g_b189 CS CSn oe216) hZ (w144 hw) (w3 hw) (by decide) (by decide)) q218a q218c (g := (mkF m 120 #[iv p0, iv p1, iv p2, iv 1, iv 0, iv q1, iv q2, iv (48 + q1), iv (48 + q2), rv b189, rv sa_196, rv sa_211, .unset, .unset, .unset, .unset] [(.ref b189)])) rfl (by rw [hml]; rfl) (Steps.refl _) (argsL := []) (rest := []) (lenOf pd_15 rfl) rfl (by show 2 * 0 + _ ≤ _; exact Nat.le_of_eq rfl) (hb hby at_120) (fun _ _ => ⟨rfl, e211, (by decide : 7 + 0 ≤ _), (by decide : 32 + 0 ≤ _)⟩)
        dsimp only [Pt.U, Pt.locs, Pt.cells, Pt.slots] at X218 lq218 yq218 zq218 st218 hQ218
        subst lq218 yq218 zq218
        obtain ⟨h218, e218⟩ : ∃ z, T218.heap = z := ⟨_, rfl⟩
        rw [e218] at hQ218
        obtain ⟨rfl, N218q, K218, p218_0, p218_1, p218_2, p218_3, p218_4, p218_5, p218_6, p218_7, p218_8⟩ := hQ218
        have N218 := Fr.app N211 N218q
        refine go_tr st218 ?_
        show Go _ _ _ _ (T218.setTop (mkF m 123 #[iv p0, iv p1, iv p2, iv 1, iv 0, iv q1, iv q2, iv (48 + q1), iv (48 + q2), rv b189, rv sa_196, rv sa_211, .unset, .unset, .unset, .unset] [(.ref b189)]))
        refine go_st (fun t k => XS.pop X218.here hx rfl (hb hby at_123) rfl rfl k) ?_
        refine go_st (fun t k => XS.aload X218.here hx rfl (hb hby at_124) rfl rfl k) ?_
        show Go _ _ _ _ (T218.setTop (mkF m 126 #[iv p0, iv p1, iv p2, iv 1, iv 0, iv q1, iv q2, iv (48 + q1), iv (48 + q2), rv b189, rv sa_196, rv sa_211, .unset, .unset, .unset, .unset] [(.ref b189)]))
        have oe219 : Old Z n0 h218 := (Old.keep oe216 K218 (allS gf193_0 (allS gf193_1 (allS g_b189 all0))))
        have sz220 : h0.size ≤ h218.size := (Nat.le_trans sz217 K218.1)
        obtain ⟨cq221, kq221, q221a, q221b, q221c⟩ := isOf hZ e218 p218_0
        obtain ⟨_, _, ⟨T221, L221, kk221, nn221⟩, -, X221, ⟨Lc221, hQ221, lq221, yq221, zq221⟩, st221⟩ := X218.virtualBack hx (y := mn3) (z := mn3) hown (mvT hZ (w32 hw)) (mvT hZ (w33 hw)) (notFace_of_selects (args := #[]) (mvT hZ (w35 hw))) (mvT hZ (w35 hw)) (mvT hZ (w34 hw)) (by decide) (backOf (W := 0) (rm_drain1 l Z a0 hw [] b189 sb_193 va_193 kv_193 (nar .byte ((93 : Int32).toInt8.toInt32)) (48 + q1) (1 : Int32) G1 h218 n0 (Nat.le_trans Z0 sz220) p218_0 p218_1 p218_3 p218_4 p218_5 p218_6 p218_7 p218_8 gf193_0 CS CSn oe219) hZ (w36 hw) (w3 hw) (by decide) (by decide)) q221a q221c (g := (mkF m 126 #[iv p0, iv p1, iv p2, iv 1, iv 0, iv q1, iv q2, iv (48 + q1), iv (48 + q2), rv b189, rv sa_196, rv sa_211, .unset, .unset, .unset, .unset] [(.ref b189)])) rfl (by rw [hml]; rfl) (Steps.refl _) (argsL := []) (rest := []) (lenOf pd_10 rfl) rfl (by show 2 * 0 + _ ≤ _; exact Nat.le_of_eq rfl) (hb hby at_126) (fun _ _ => ⟨rfl, e218, (by decide : 7 + 2 ≤ _), (by decide : 32 + 5 ≤ _)⟩)
        dsimp only [Pt.U, Pt.locs, Pt.cells, Pt.slots] at X221 lq221 yq221 zq221 st221 hQ221
        subst lq221 yq221 zq221
        obtain ⟨h221, e221⟩ : ∃ z, T221.heap = z := ⟨_, rfl⟩
        rw [e221] at hQ221
        obtain ⟨sa_221, ta_221, kt_221, rfl, N221q, K221, gf221_0, lf221_0, gf221_1, lf221_1, p221_2, p221_3, p221_4, p221_5, p221_6, p221_7, p221_8, p221_9, p221_10⟩ := hQ221
        have N221 := Fr.app N218 N221q
        refine go_tr st221 ?_
        refine go_st (fun t k => XS.astore X221.here hx rfl (hb hby at_129) rfl rfl (l' := #[iv p0, iv p1, iv p2, iv 1, iv 0, iv q1, iv q2, iv (48 + q1), iv (48 + q2), rv b189, rv sa_196, rv sa_211, rv sa_221, .unset, .unset, .unset]) rfl k) ?_
        refine go_st (fun t k => XS.aload X221.here hx rfl (hb hby at_131) rfl rfl k) ?_
        show Go _ _ _ _ (T221.setTop (mkF m 133 #[iv p0, iv p1, iv p2, iv 1, iv 0, iv q1, iv q2, iv (48 + q1), iv (48 + q2), rv b189, rv sa_196, rv sa_211, rv sa_221, .unset, .unset, .unset] [(.ref b189)]))
        have f222 : Exa Z h221 b189 cJW := (p218_0.keep K221)
        have f223 : Fld Z h221 b189 cJW "text" "Ljava/lang/StringBuilder;" (.ref sb_193) := (p218_1.keep K221 (ninS nq198 nin0))
        have f224 : Arv Z h221 va_193 kv_193 .byte (16 : Int32) [(.int (nar .byte ((93 : Int32).toInt8.toInt32))), (.int (48 + q1))] (.int (0 : Int32)) := (p218_8.keep K221 (ninS nq201 nin0))
        have oe225 : Old Z n0 h221 := (Old.keep oe219 K221 (allS gf193_0 all0))
        have sz226 : h0.size ≤ h221.size := (Nat.le_trans sz220 K221.1)
        obtain ⟨cq227, kq227, q227a, q227b, q227c⟩ := isOf hZ e221 f222
        obtain ⟨_, _, ⟨T227, L227, kk227, nn227⟩, -, X227, ⟨Lc227, hQ227, lq227, yq227, zq227⟩, st227⟩ := X221.virtualBack hx (y := mn3) (z := mn3) hown (mvT hZ (w32 hw)) (mvT hZ (w33 hw)) (notFace_of_selects (args := #[]) (mvT hZ (w35 hw))) (mvT hZ (w35 hw)) (mvT hZ (w34 hw)) (by decide) (backOf (W := 0) (rm_drain0 l Z a0 hw [] b189 sb_193 va_193 kv_193 (nar .byte ((93 : Int32).toInt8.toInt32)) (48 + q1) (1 : Int32) G1 h221 n0 (Nat.le_trans Z0 sz226) f222 f223 p221_6 p221_7 p221_8 p221_9 p221_10 f224 gf193_0 CS CSn oe225) hZ (w36 hw) (w3 hw) (by decide) (by decide)) q227a q227c (g := (mkF m 133 #[iv p0, iv p1, iv p2, iv 1, iv 0, iv q1, iv q2, iv (48 + q1), iv (48 + q2), rv b189, rv sa_196, rv sa_211, rv sa_221, .unset, .unset, .unset] [(.ref b189)])) rfl (by rw [hml]; rfl) (Steps.refl _) (argsL := []) (rest := []) (lenOf pd_10 rfl) rfl (by show 2 * 0 + _ ≤ _; exact Nat.le_of_eq rfl) (hb hby at_133) (fun _ _ => ⟨rfl, e221, (by decide : 9 + 2 ≤ _), (by decide : 37 + 4 ≤ _)⟩)
        dsimp only [Pt.U, Pt.locs, Pt.cells, Pt.slots] at X227 lq227 yq227 zq227 st227 hQ227
        subst lq227 yq227 zq227
        obtain ⟨h227, e227⟩ : ∃ z, T227.heap = z := ⟨_, rfl⟩
        rw [e227] at hQ227
        obtain ⟨sa_227, ta_227, kt_227, rfl, N227q, K227, gf227_0, lf227_0, gf227_1, lf227_1, p227_2, p227_3, p227_4, p227_5, p227_6, p227_7, p227_8, p227_9, p227_10⟩ := hQ227
        have N227 := Fr.app N221 N227q
        refine go_tr st227 ?_
        refine go_st (fun t k => XS.astore X227.here hx rfl (hb hby at_136) rfl rfl (l' := #[iv p0, iv p1, iv p2, iv 1, iv 0, iv q1, iv q2, iv (48 + q1), iv (48 + q2), rv b189, rv sa_196, rv sa_211, rv sa_221, rv sa_227, .unset, .unset]) rfl k) ?_
        refine go_st (fun t k => XS.iloadN X227.here hx rfl (hb hby at_138) rfl k) ?_
        show Go _ _ _ _ (T227.setTop (mkF m 139 #[iv p0, iv p1, iv p2, iv 1, iv 0, iv q1, iv q2, iv (48 + q1), iv (48 + q2), rv b189, rv sa_196, rv sa_211, rv sa_221, rv sa_227, .unset, .unset] [(.int 1)]))
        refine go_st (fun t k => XS.ifNo X227.here hx rfl (hb hby at_139) rfl ((if0 _ _).trans (feq ((by decide) : ¬ ((1 : Int32) = (0 : Int32)))).1) k) ?_
        show Go _ _ _ _ (T227.setTop (mkF m 142 #[iv p0, iv p1, iv p2, iv 1, iv 0, iv q1, iv q2, iv (48 + q1), iv (48 + q2), rv b189, rv sa_196, rv sa_211, rv sa_221, rv sa_227, .unset, .unset] []))
        obtain ⟨T228, h228, X228, e228, E228, A228, D228, -, st228⟩ := newO X227 hx hZ hown (w199 hw) (w43 hw) (w24 hw) e227 (g := (mkF m 142 #[iv p0, iv p1, iv p2, iv 1, iv 0, iv q1, iv q2, iv (48 + q1), iv (48 + q2), rv b189, rv sa_196, rv sa_211, rv sa_221, rv sa_227, .unset, .unset] [])) rfl (hb hby at_142) (by decide) (by decide)
        obtain ⟨b228, gq228⟩ : ∃ z, z = h227.size := ⟨_, rfl⟩
        rw [← gq228] at A228 D228 st228
        have f229 : Fld Z h228 b228 cST "coder" "B" (.int 0) := D228 (Or.inr (w74 hw)) (ty := .byte) (by decide)
        have f230 : Fld Z h228 b228 cST "value" "[B" .null := D228 (Or.inr (w94 hw)) (ty := (.array .byte)) (by decide)
        refine go_st (fun t k => st228 t k) ?_
        refine go_st (fun t k => XS.dup X228.here hx rfl (hb hby at_145) rfl rfl k) ?_
        refine go_st (fun t k => XS.iconst X228.here hx rfl (hb hby at_146) k) ?_
        show Go _ _ _ _ (T228.setTop (mkF m 147 #[iv p0, iv p1, iv p2, iv 1, iv 0, iv q1, iv q2, iv (48 + q1), iv (48 + q2), rv b189, rv sa_196, rv sa_211, rv sa_221, rv sa_227, .unset, .unset] [(.int 2), (.ref b228), (.ref b228)]))
        obtain ⟨T231, h231, kc231, X231, e231, E231, A231, st231⟩ := newP X228 hx hZ (aty := .char) (w200 hw) e228 (g := (mkF m 147 #[iv p0, iv p1, iv p2, iv 1, iv 0, iv q1, iv q2, iv (48 + q1), iv (48 + q2), rv b189, rv sa_196, rv sa_211, rv sa_221, rv sa_227, .unset, .unset] [(.int 2), (.ref b228), (.ref b228)])) rfl (hb hby at_147) rfl (by decide) (cap := 2) (by decide) (by decide) (by decide) (by decide)
        obtain ⟨b231, gq231⟩ : ∃ z, z = h228.size := ⟨_, rfl⟩
        rw [← gq231] at A231 st231
        have f232 : Arv Z h231 b231 kc231 .char (2 : Int32) [(.int 0), (.int 0)] (.int 0) := (Arv.new A231 (by decide)).pad (pad_rep [] (.int 0) 2)
        refine go_st (fun t k => st231 t k) ?_
        refine go_st (fun t k => XS.dup X231.here hx rfl (hb hby at_149) rfl rfl k) ?_
        refine go_st (fun t k => XS.iconst X231.here hx rfl (hb hby at_150) k) ?_
        refine go_st (fun t k => XS.bipush X231.here hx rfl (hb hby at_151) k) ?_
        show Go _ _ _ _ (T231.setTop (mkF m 153 #[iv p0, iv p1, iv p2, iv 1, iv 0, iv q1, iv q2, iv (48 + q1), iv (48 + q2), rv b189, rv sa_196, rv sa_211, rv sa_221, rv sa_227, .unset, .unset] [(.int 91), (.int 0), (.ref b231), (.ref b231), (.ref b228), (.ref b228)]))
        obtain ⟨zc233, zA233, zq233, zS233, zN233, zH233, zG233⟩ := id f232
        have hin233 : ¬ ((0 : Int32) < 0 ∨ zc233.slots.size ≤ ((0 : Int32)).toNatClampNeg) := inb_of zS233 ⟨by decide, by decide⟩
        obtain ⟨T233, h233, X233, e233, W233, st233⟩ := stC X231 hx hZ e231 zA233 (j := (0 : Int32)) hin233 (g := (mkF m 153 #[iv p0, iv p1, iv p2, iv 1, iv 0, iv q1, iv q2, iv (48 + q1), iv (48 + q2), rv b189, rv sa_196, rv sa_211, rv sa_221, rv sa_227, .unset, .unset] [(.int 91), (.int 0), (.ref b231), (.ref b231), (.ref b228), (.ref b228)])) rfl rfl (hb hby at_153)
        have sz234 : h0.size ≤ h227.size := (Nat.le_trans sz226 K227.1)
        have sz235 : h0.size ≤ h228.size := (Nat.le_trans sz234 E228.1)
        have g_b231 : n0 ≤ b231 := Nat.le_trans (Nat.le_trans Z0 sz235) (Nat.le_of_eq gq231.symm)
        have N233 := Fr.snoc X233 N227 g_b231
        have f236 : Arv Z h233 b231 kc231 .char (2 : Int32) [(.int (nar .char (91 : Int32))), (.int 0)] (.int 0) := Arv.set zA233 zq233 zS233 zN233 zH233 zG233 (fits_nar_char _) W233 0 rfl (Nat.le_of_ble_eq_true rfl)
        refine go_st (fun t k => st233 t k) ?_
        refine go_st (fun t k => XS.dup X233.here hx rfl (hb hby at_154) rfl rfl k) ?_
        refine go_st (fun t k => XS.iconst X233.here hx rfl (hb hby at_155) k) ?_
        refine go_st (fun t k => XS.iload X233.here hx rfl (hb hby at_156) rfl k) ?_
        show Go _ _ _ _ (T233.setTop (mkF m 158 #[iv p0, iv p1, iv p2, iv 1, iv 0, iv q1, iv q2, iv (48 + q1), iv (48 + q2), rv b189, rv sa_196, rv sa_211, rv sa_221, rv sa_227, .unset, .unset] [(.int (48 + q1)), (.int 1), (.ref b231), (.ref b231), (.ref b228), (.ref b228)]))
        obtain ⟨zc237, zA237, zq237, zS237, zN237, zH237, zG237⟩ := id f236
        have hin237 : ¬ ((1 : Int32) < 0 ∨ zc237.slots.size ≤ ((1 : Int32)).toNatClampNeg) := inb_of zS237 ⟨by decide, by decide⟩
        obtain ⟨T237, h237, X237, e237, W237, st237⟩ := stC X233 hx hZ e233 zA237 (j := (1 : Int32)) hin237 (g := (mkF m 158 #[iv p0, iv p1, iv p2, iv 1, iv 0, iv q1, iv q2, iv (48 + q1), iv (48 + q2), rv b189, rv sa_196, rv sa_211, rv sa_221, rv sa_227, .unset, .unset] [(.int (48 + q1)), (.int 1), (.ref b231), (.ref b231), (.ref b228), (.ref b228)])) rfl rfl (hb hby at_158)
        have N237 := Fr.snoc X237 N233 g_b231
        have f238 : Arv Z h237 b231 kc231 .char (2 : Int32) [(.int (nar .char (91 : Int32))), (.int (nar .char (48 + q1)))] (.int 0) := Arv.set zA237 zq237 zS237 zN237 zH237 zG237 (fits_nar_char _) W237 1 rfl (Nat.le_of_ble_eq_true rfl)
        refine go_st (fun t k => st237 t k) ?_
        show Go _ _ _ _ (T237.setTop (mkF m 159 #[iv p0, iv p1, iv p2, iv 1, iv 0, iv q1, iv q2, iv (48 + q1), iv (48 + q2), rv b189, rv sa_196, rv sa_211, rv sa_221, rv sa_227, .unset, .unset] [(.ref b231), (.ref b228), (.ref b228)]))
        have f239 : Exa Z h237 b228 cST := (((A228.ext E231).wr W233).wr W237)
        have nq240 : b228 ≠ b231 := Nat.ne_of_lt (Nat.lt_of_lt_of_le (Nat.lt_of_lt_of_le A228.lt (Nat.le_refl _)) (Nat.le_of_eq gq231.symm))
        have f241 : Fld Z h237 b228 cST "value" "[B" .null := (((f230.ext E231).other W233 (Or.inl nq240)).other W237 (Or.inl nq240))
        have f242 : Fld Z h237 b228 cST "coder" "B" (.int 0) := (((f229.ext E231).other W233 (Or.inl nq240)).other W237 (Or.inl nq240))
        have oe243 : Old Z n0 h227 := (Old.keep oe225 K227 (allS gf193_0 all0))
        have oe244 : Old Z n0 h228 := (Old.ext oe243 E228)
        have oe245 : Old Z n0 h231 := (Old.ext oe244 E231)
        have oe246 : Old Z n0 h233 := (Old.wr oe245 W233 g_b231)
        have oe247 : Old Z n0 h237 := (Old.wr oe246 W237 g_b231)
        have g_b228 : n0 ≤ b228 := Nat.le_trans (Nat.le_trans Z0 sz234) (Nat.le_of_eq gq228.symm)
        have sz248 : h0.size ≤ h231.size := (Nat.le_trans sz235 E231.1)
        have sz249 : h0.size ≤ h233.size := (Nat.le_trans sz248 (Nat.le_of_eq W233.size.symm))
        have sz250 : h0.size ≤ h237.size := (Nat.le_trans sz249 (Nat.le_of_eq W237.size.symm))
        obtain ⟨_, _, ⟨T251, L251, kk251, nn251⟩, -, X251, ⟨Lc251, hQ251, lq251, yq251, zq251⟩, st251⟩ := X237.specialBack hx (y := mn37) rfl hown (mvT hZ (w201 hw)) (mvT hZ (w202 hw)) (mvT hZ (w203 hw)) (by decide) (StrChars.Road.backV (W := 1) hZ (words_in str_words hw) (kI := 4) (w43 hw) (cs := ([(nar .char (91 : Int32)), (nar .char (48 + q1))] : List Int32)) (bs := ([(nar .char (91 : Int32)), (nar .char (48 + q1))] : List Int32).map (fun c => c.toInt8.toInt32)) (n := 2) g_b228 (Nat.le_trans Z0 sz250) f239 f241 f242 f238 (Sta.ext oe247.2 CS) CSn rfl rfl (by decide) (by decide) (chars_cons (c := (nar .char (91 : Int32))) (by decide) (chars_cons (c := (nar .char (48 + q1))) (dg_all (P := fun q1 => ¬ (nar .char (48 + q1)) < 0 ∧ ¬ (255 : Int32) < (nar .char (48 + q1))) hq1 (by decide +kernel)) chars_nil)) rfl (by decide) (by decide)) (g := (mkF m 159 #[iv p0, iv p1, iv p2, iv 1, iv 0, iv q1, iv q2, iv (48 + q1), iv (48 + q2), rv b189, rv sa_196, rv sa_211, rv sa_221, rv sa_227, .unset, .unset] [(.ref b231), (.ref b228), (.ref b228)])) rfl (by rw [hml]; rfl) (Steps.refl _) (a := b228) (argsL := [(.ref b231)]) (rest := [(.ref b228)]) (lenOf pd_26 rfl) rfl (by show 2 * 0 + _ ≤ _; exact Nat.le_of_eq rfl) (hb hby at_159) (fun _ _ => ⟨rfl, e237, (by decide : 13 + 1 ≤ _), (by decide : 47 + 2 ≤ _)⟩)
        dsimp only [Pt.U, Pt.locs, Pt.cells, Pt.slots] at X251 lq251 yq251 zq251 st251 hQ251
        subst lq251 yq251 zq251
        obtain ⟨h251, e251⟩ : ∃ z, T251.heap = z := ⟨_, rfl⟩
        rw [e251] at hQ251
        obtain ⟨rfl, N251q, K251, Es251, Cs251, t251, kb251, gt251, lt251, nt251, Vs251, As251⟩ := hQ251
        have N251 := Fr.app N237 N251q
        refine go_tr st251 ?_
        have f252 : Arv Z h251 t251 kb251 .byte (2 : Int32) [(.int ((nar .char (91 : Int32)).toInt8.toInt32)), (.int ((nar .char (48 + q1)).toInt8.toInt32))] (.int 0) := As251
        refine go_st (fun t k => XS.astore X251.here hx rfl (hb hby at_162) rfl rfl (l' := #[iv p0, iv p1, iv p2, iv 1, iv 0, iv q1, iv q2, iv (48 + q1), iv (48 + q2), rv b189, rv sa_196, rv sa_211, rv sa_221, rv sa_227, rv b228, .unset]) rfl k) ?_
        refine go_st (fun t k => XS.goto X251.here hx rfl (pc0 := 164) (pc' := 174) rfl (hb hby at_164) (by decide) (by decide) k) ?_
        show Go _ _ _ _ (T251.setTop (mkF m 174 #[iv p0, iv p1, iv p2, iv 1, iv 0, iv q1, iv q2, iv (48 + q1), iv (48 + q2), rv b189, rv sa_196, rv sa_211, rv sa_221, rv sa_227, rv b228, .unset] []))
        refine go_st (fun t k => XS.iload X251.here hx rfl (hb hby at_174) rfl k) ?_
        show Go _ _ _ _ (T251.setTop (mkF m 176 #[iv p0, iv p1, iv p2, iv 1, iv 0, iv q1, iv q2, iv (48 + q1), iv (48 + q2), rv b189, rv sa_196, rv sa_211, rv sa_221, rv sa_227, rv b228, .unset] [(.int 0)]))
        refine go_st (fun t k => XS.ifYes X251.here hx rfl (pc0 := 176) (pc' := 218) rfl (hb hby at_176) rfl ((if0 _ _).trans (teq ((by decide) : (0 : Int32) = (0 : Int32))).1) (by decide) (by decide) k) ?_
        show Go _ _ _ _ (T251.setTop (mkF m 218 #[iv p0, iv p1, iv p2, iv 1, iv 0, iv q1, iv q2, iv (48 + q1), iv (48 + q2), rv b189, rv sa_196, rv sa_211, rv sa_221, rv sa_227, rv b228, .unset] []))
        refine go_st (fun t k => XS.bipush X251.here hx rfl (hb hby at_218) k) ?_
        show Go _ _ _ _ (T251.setTop (mkF m 220 #[iv p0, iv p1, iv p2, iv 1, iv 0, iv q1, iv q2, iv (48 + q1), iv (48 + q2), rv b189, rv sa_196, rv sa_211, rv sa_221, rv sa_227, rv b228, .unset] [(.int 93)]))
        have oe253 : Old Z n0 h251 := (Old.keep oe247 K251 (allS g_b228 all0))
        have sz254 : h0.size ≤ h251.size := (Nat.le_trans sz250 K251.1)
        obtain ⟨_, _, ⟨T255, L255, kk255, nn255⟩, -, X255, ⟨Lc255, hQ255, lq255, yq255, zq255⟩, st255⟩ := Jvm.LawKit.callS X251 hx (y := mn26) hown (mvT hZ (w149 hw)) (mvT hZ (w150 hw)) (mvT hZ (w24 hw)) (mvT hZ (w151 hw)) (by decide) (backOf (W := 0) (rm_vof l Z a0 hw [] (93 : Int32) G1 h251 n0 (Nat.le_trans Z0 sz254) (by decide) CS CSn oe253) hZ (w151 hw) (w24 hw) (by decide) (by decide)) (g := (mkF m 220 #[iv p0, iv p1, iv p2, iv 1, iv 0, iv q1, iv q2, iv (48 + q1), iv (48 + q2), rv b189, rv sa_196, rv sa_211, rv sa_221, rv sa_227, rv b228, .unset] [(.int 93)])) rfl (by rw [hml]; rfl) (argsL := [(.int 93)]) (rest := []) (lenOf pd_18 rfl) rfl (by show 2 * 0 + _ ≤ _; exact Nat.le_of_eq rfl) (hb hby at_220) (fun _ _ => ⟨rfl, e251, (by decide : 14 + 2 ≤ _), (by decide : 49 + 5 ≤ _)⟩)
        dsimp only [Pt.U, Pt.locs, Pt.cells, Pt.slots] at X255 lq255 yq255 zq255 st255 hQ255
        subst lq255 yq255 zq255
        obtain ⟨h255, e255⟩ : ∃ z, T255.heap = z := ⟨_, rfl⟩
        rw [e255] at hQ255
        obtain ⟨sa_255, ta_255, kt_255, rfl, N255q, K255, gf255_0, lf255_0, gf255_1, lf255_1, p255_2, p255_3, p255_4, p255_5⟩ := hQ255
        have N255 := Fr.app N251 N255q
        refine go_st st255 ?_
        refine go_st (fun t k => XS.astore X255.here hx rfl (hb hby at_223) rfl rfl (l' := #[iv p0, iv p1, iv p2, iv 1, iv 0, iv q1, iv q2, iv (48 + q1), iv (48 + q2), rv b189, rv sa_196, rv sa_211, rv sa_221, rv sa_227, rv b228, rv sa_255]) rfl k) ?_
        refine go_st (fun t k => XS.aload X255.here hx rfl (hb hby at_225) rfl rfl k) ?_
        show Go _ _ _ _ (T255.setTop (mkF m 227 #[iv p0, iv p1, iv p2, iv 1, iv 0, iv q1, iv q2, iv (48 + q1), iv (48 + q2), rv b189, rv sa_196, rv sa_211, rv sa_221, rv sa_227, rv b228, rv sa_255] [(.ref sa_196)]))
        have f256 : Exa Z h255 sa_196 cST := ((((((((((((p196_2.keep K205).keep K208).keep K211).keep K218).keep K221).keep K227).ext E228).ext E231).wr W233).wr W237).keep K251).keep K255)
        have nq257 : b189 ≠ sa_196 := Nat.ne_of_lt (Nat.lt_of_lt_of_le (Nat.lt_of_lt_of_le A189.lt K193.1) lf196_0)
        have nq258 : va_193 ≠ sa_196 := Nat.ne_of_lt (Nat.lt_of_lt_of_le (Nat.lt_of_lt_of_le p193_10.lt (Nat.le_refl _)) lf196_0)
        have nq259 : sb_193 ≠ sa_196 := Nat.ne_of_lt (Nat.lt_of_lt_of_le (Nat.lt_of_lt_of_le p193_5.lt (Nat.le_refl _)) lf196_0)
        have sz260 : h196.size ≤ h208.size := (Nat.le_trans K205.1 K208.1)
        have sz261 : h196.size ≤ h211.size := (Nat.le_trans sz260 K211.1)
        have sz262 : h196.size ≤ h218.size := (Nat.le_trans sz261 K218.1)
        have sz263 : h196.size ≤ h221.size := (Nat.le_trans sz262 K221.1)
        have sz264 : h196.size ≤ h227.size := (Nat.le_trans sz263 K227.1)
        have sz265 : h196.size ≤ h228.size := (Nat.le_trans sz264 E228.1)
        have nq266 : sa_196 ≠ b231 := Nat.ne_of_lt (Nat.lt_of_lt_of_le (Nat.lt_of_lt_of_le p196_2.lt sz265) (Nat.le_of_eq gq231.symm))
        have nq267 : sa_196 ≠ b228 := Nat.ne_of_lt (Nat.lt_of_lt_of_le (Nat.lt_of_lt_of_le p196_2.lt sz264) (Nat.le_of_eq gq228.symm))
        have f268 : Fld Z h255 sa_196 cST "value" "[B" (.ref ta_196) := ((((((((((((p196_3.keep K205 (ninS (Ne.symm nq259) (ninS (Ne.symm nq258) (ninS (Ne.symm nq257) nin0)))).keep K208 (ninS (Ne.symm nq259) (ninS (Ne.symm nq258) (ninS (Ne.symm nq257) nin0)))).keep K211 (ninS (Ne.symm nq259) nin0)).keep K218 (ninS (Ne.symm nq259) (ninS (Ne.symm nq258) (ninS (Ne.symm nq257) nin0)))).keep K221 (ninS (Ne.symm nq259) nin0)).keep K227 (ninS (Ne.symm nq259) nin0)).ext E228).ext E231).other W233 (Or.inl nq266)).other W237 (Or.inl nq266)).keep K251 (ninS nq267 nin0)).keep K255 nin0)
        have f269 : Fld Z h255 sa_196 cST "coder" "B" (.int 0) := ((((((((((((p196_4.keep K205 (ninS (Ne.symm nq259) (ninS (Ne.symm nq258) (ninS (Ne.symm nq257) nin0)))).keep K208 (ninS (Ne.symm nq259) (ninS (Ne.symm nq258) (ninS (Ne.symm nq257) nin0)))).keep K211 (ninS (Ne.symm nq259) nin0)).keep K218 (ninS (Ne.symm nq259) (ninS (Ne.symm nq258) (ninS (Ne.symm nq257) nin0)))).keep K221 (ninS (Ne.symm nq259) nin0)).keep K227 (ninS (Ne.symm nq259) nin0)).ext E228).ext E231).other W233 (Or.inl nq266)).other W237 (Or.inl nq266)).keep K251 (ninS nq267 nin0)).keep K255 nin0)
        have nq270 : b189 ≠ ta_196 := Nat.ne_of_lt (Nat.lt_of_lt_of_le (Nat.lt_of_lt_of_le A189.lt K193.1) lf196_1)
        have nq271 : va_193 ≠ ta_196 := Nat.ne_of_lt (Nat.lt_of_lt_of_le (Nat.lt_of_lt_of_le p193_10.lt (Nat.le_refl _)) lf196_1)
        have nq272 : sb_193 ≠ ta_196 := Nat.ne_of_lt (Nat.lt_of_lt_of_le (Nat.lt_of_lt_of_le p193_5.lt (Nat.le_refl _)) lf196_1)
        have nq273 : ta_196 ≠ b231 := Nat.ne_of_lt (Nat.lt_of_lt_of_le (Nat.lt_of_lt_of_le p196_5.lt sz265) (Nat.le_of_eq gq231.symm))
        have nq274 : ta_196 ≠ b228 := Nat.ne_of_lt (Nat.lt_of_lt_of_le (Nat.lt_of_lt_of_le p196_5.lt sz264) (Nat.le_of_eq gq228.symm))
        have f275 : Arv Z h255 ta_196 kt_196 .byte (0 : Int32) [] (.int (0 : Int32)) := ((((((((((((p196_5.keep K205 (ninS (Ne.symm nq272) (ninS (Ne.symm nq271) (ninS (Ne.symm nq270) nin0)))).keep K208 (ninS (Ne.symm nq272) (ninS (Ne.symm nq271) (ninS (Ne.symm nq270) nin0)))).keep K211 (ninS (Ne.symm nq272) nin0)).keep K218 (ninS (Ne.symm nq272) (ninS (Ne.symm nq271) (ninS (Ne.symm nq270) nin0)))).keep K221 (ninS (Ne.symm nq272) nin0)).keep K227 (ninS (Ne.symm nq272) nin0)).ext E228).ext E231).other W233 nq273).other W237 nq273).keep K251 (ninS nq274 nin0)).keep K255 nin0)
        have oe276 : Old Z n0 h255 := (Old.keep oe253 K255 all0)
        have sz277 : h0.size ≤ h255.size := (Nat.le_trans sz254 K255.1)
        obtain ⟨cq278, kq278, q278a, q278b, q278c⟩ := isOf hZ e255 f256
        obtain ⟨_, _, ⟨T278, L278, kk278, nn278⟩, -, X278, ⟨Lc278, hQ278, lq278, yq278, zq278⟩, st278⟩ := X255.virtualBack hx (y := mn29) (z := mn29) hown (mvT hZ (w161 hw)) (mvT hZ (w162 hw)) (notFace_of_selects (args := #[]) (mvT hZ (w164 hw))) (mvT hZ (w164 hw)) (mvT hZ (w163 hw)) (by decide) (backOf (W := 0) (rm_sisEmpty0 l Z a0 hw [] sa_196 ta_196 kt_196 G1 h255 n0 (Nat.le_trans Z0 sz277) f256 f268 f269 f275 CS CSn oe276) hZ (w165 hw) (w24 hw) (by decide) (by decide)) q278a q278c (g := (mkF m 227 #[iv p0, iv p1, iv p2, iv 1, iv 0, iv q1, iv q2, iv (48 + q1), iv (48 + q2), rv b189, rv sa_196, rv sa_211, rv sa_221, rv sa_227, rv b228, rv sa_255] [(.ref sa_196)])) rfl (by rw [hml]; rfl) (Steps.refl _) (argsL := []) (rest := []) (lenOf pd_4 rfl) rfl (by show 2 * 0 + _ ≤ _; exact Nat.le_of_eq rfl) (hb hby at_227) (fun _ _ => ⟨rfl, e255, (by decide : 16 + 0 ≤ _), (by decide : 54 + 0 ≤ _)⟩)
        dsimp only [Pt.U, Pt.locs, Pt.cells, Pt.slots] at X278 lq278 yq278 zq278 st278 hQ278
        subst lq278 yq278 zq278
        obtain ⟨h278, e278⟩ : ∃ z, T278.heap = z := ⟨_, rfl⟩
        rw [e278] at hQ278
        obtain ⟨rfl, N278q, he278⟩ := hQ278
        have N278 := Fr.app N255 N278q
        rw [he278] at e278
        refine go_tr st278 ?_
        show Go _ _ _ _ (T278.setTop (mkF m 230 #[iv p0, iv p1, iv p2, iv 1, iv 0, iv q1, iv q2, iv (48 + q1), iv (48 + q2), rv b189, rv sa_196, rv sa_211, rv sa_221, rv sa_227, rv b228, rv sa_255] [(.int 1)]))
        refine go_st (fun t k => XS.ifNo X278.here hx rfl (hb hby at_230) rfl ((if0 _ _).trans (feq ((by decide) : ¬ ((1 : Int32) = (0 : Int32)))).1) k) ?_
        show Go _ _ _ _ (T278.setTop (mkF m 233 #[iv p0, iv p1, iv p2, iv 1, iv 0, iv q1, iv q2, iv (48 + q1), iv (48 + q2), rv b189, rv sa_196, rv sa_211, rv sa_221, rv sa_227, rv b228, rv sa_255] []))
        refine go_st (fun t k => XS.aload X278.here hx rfl (hb hby at_233) rfl rfl k) ?_
        refine go_st (fun t k => XS.aload X278.here hx rfl (hb hby at_235) rfl rfl k) ?_
        show Go _ _ _ _ (T278.setTop (mkF m 237 #[iv p0, iv p1, iv p2, iv 1, iv 0, iv q1, iv q2, iv (48 + q1), iv (48 + q2), rv b189, rv sa_196, rv sa_211, rv sa_221, rv sa_227, rv b228, rv sa_255] [(.ref b228), (.ref sa_211)]))
        have f279 : Exa Z h255 sa_211 cST := (((((((((p211_2.keep K218).keep K221).keep K227).ext E228).ext E231).wr W233).wr W237).keep K251).keep K255)
        have sz280 : h189.size ≤ h196.size := (Nat.le_trans K193.1 K196.1)
        have sz281 : h189.size ≤ h205.size := (Nat.le_trans sz280 K205.1)
        have sz282 : h189.size ≤ h208.size := (Nat.le_trans sz281 K208.1)
        have nq283 : b189 ≠ sa_211 := Nat.ne_of_lt (Nat.lt_of_lt_of_le (Nat.lt_of_lt_of_le A189.lt sz282) lf211_0)
        have sz284 : h193.size ≤ h205.size := (Nat.le_trans K196.1 K205.1)
        have sz285 : h193.size ≤ h208.size := (Nat.le_trans sz284 K208.1)
        have nq286 : va_193 ≠ sa_211 := Nat.ne_of_lt (Nat.lt_of_lt_of_le (Nat.lt_of_lt_of_le p193_10.lt sz285) lf211_0)
        have nq287 : sb_193 ≠ sa_211 := Nat.ne_of_lt (Nat.lt_of_lt_of_le (Nat.lt_of_lt_of_le p193_5.lt sz285) lf211_0)
        have sz288 : h211.size ≤ h221.size := (Nat.le_trans K218.1 K221.1)
        have sz289 : h211.size ≤ h227.size := (Nat.le_trans sz288 K227.1)
        have sz290 : h211.size ≤ h228.size := (Nat.le_trans sz289 E228.1)
        have nq291 : sa_211 ≠ b231 := Nat.ne_of_lt (Nat.lt_of_lt_of_le (Nat.lt_of_lt_of_le p211_2.lt sz290) (Nat.le_of_eq gq231.symm))
        have nq292 : sa_211 ≠ b228 := Nat.ne_of_lt (Nat.lt_of_lt_of_le (Nat.lt_of_lt_of_le p211_2.lt sz289) (Nat.le_of_eq gq228.symm))
        have f293 : Fld Z h255 sa_211 cST "value" "[B" (.ref ta_211) := (((((((((p211_3.keep K218 (ninS (Ne.symm nq287) (ninS (Ne.symm nq286) (ninS (Ne.symm nq283) nin0)))).keep K221 (ninS (Ne.symm nq287) nin0)).keep K227 (ninS (Ne.symm nq287) nin0)).ext E228).ext E231).other W233 (Or.inl nq291)).other W237 (Or.inl nq291)).keep K251 (ninS nq292 nin0)).keep K255 nin0)
        have f294 : Fld Z h255 sa_211 cST "coder" "B" (.int 0) := (((((((((p211_4.keep K218 (ninS (Ne.symm nq287) (ninS (Ne.symm nq286) (ninS (Ne.symm nq283) nin0)))).keep K221 (ninS (Ne.symm nq287) nin0)).keep K227 (ninS (Ne.symm nq287) nin0)).ext E228).ext E231).other W233 (Or.inl nq291)).other W237 (Or.inl nq291)).keep K251 (ninS nq292 nin0)).keep K255 nin0)
        have nq295 : b189 ≠ ta_211 := Nat.ne_of_lt (Nat.lt_of_lt_of_le (Nat.lt_of_lt_of_le A189.lt sz282) lf211_1)
        have nq296 : va_193 ≠ ta_211 := Nat.ne_of_lt (Nat.lt_of_lt_of_le (Nat.lt_of_lt_of_le p193_10.lt sz285) lf211_1)
        have nq297 : sb_193 ≠ ta_211 := Nat.ne_of_lt (Nat.lt_of_lt_of_le (Nat.lt_of_lt_of_le p193_5.lt sz285) lf211_1)
        have nq298 : ta_211 ≠ b231 := Nat.ne_of_lt (Nat.lt_of_lt_of_le (Nat.lt_of_lt_of_le p211_5.lt sz290) (Nat.le_of_eq gq231.symm))
        have nq299 : ta_211 ≠ b228 := Nat.ne_of_lt (Nat.lt_of_lt_of_le (Nat.lt_of_lt_of_le p211_5.lt sz289) (Nat.le_of_eq gq228.symm))
        have f300 : Arv Z h255 ta_211 kt_211 .byte (2 : Int32) [(.int (nar .byte ((91 : Int32).toInt8.toInt32))), (.int (48 + q1))] (.int (0 : Int32)) := (((((((((p211_5.keep K218 (ninS (Ne.symm nq297) (ninS (Ne.symm nq296) (ninS (Ne.symm nq295) nin0)))).keep K221 (ninS (Ne.symm nq297) nin0)).keep K227 (ninS (Ne.symm nq297) nin0)).ext E228).ext E231).other W233 nq298).other W237 nq298).keep K251 (ninS nq299 nin0)).keep K255 nin0)
        have f301 : Exa Z h255 b228 cST := (Es251.keep K255)
        have f302 : Fld Z h255 b228 cST "value" "[B" (.ref t251) := (Vs251.keep K255 nin0)
        have f303 : Fld Z h255 b228 cST "coder" "B" (.int 0) := (Cs251.keep K255 nin0)
        have f304 : Arv Z h255 t251 kb251 .byte (2 : Int32) [(.int ((nar .char (91 : Int32)).toInt8.toInt32)), (.int ((nar .char (48 + q1)).toInt8.toInt32))] (.int 0) := (f252.keep K255 nin0)
        obtain ⟨cq305, kq305, q305a, q305b, q305c⟩ := isOf hZ e278 f279
        obtain ⟨_, _, ⟨T305, L305, kk305, nn305⟩, -, X305, ⟨Lc305, hQ305, lq305, yq305, zq305⟩, st305⟩ := X278.virtualBack hx (y := mn30) (z := mn30) hown (mvT hZ (w166 hw)) (mvT hZ (w167 hw)) (nf_same (y := mn30) (y' := mn29) (a0 := #[]) rfl (mvT hZ (w163 hw)) (notFace_of_selects (args := #[]) (mvT hZ (w164 hw)))) (mvT hZ (w169 hw)) (mvT hZ (w168 hw)) (by decide) (backOf (W := 0) (rm_seq2 l Z a0 hw [] sa_211 ta_211 kt_211 (nar .byte ((91 : Int32).toInt8.toInt32)) (48 + q1) b228 t251 kb251 ((nar .char (91 : Int32)).toInt8.toInt32) ((nar .char (48 + q1)).toInt8.toInt32) G1 h255 n0 (Nat.le_trans Z0 sz277) f279 f293 f294 f300 f301 f302 f303 f304 nq292 (by decide) (dg_all (P := fun q1 => (48 + q1) = ((nar .char (48 + q1)).toInt8.toInt32)) hq1 (by decide +kernel)) CS CSn oe276) hZ (w170 hw) (w24 hw) (by decide) (by decide)) q305a q305c (g := (mkF m 237 #[iv p0, iv p1, iv p2, iv 1, iv 0, iv q1, iv q2, iv (48 + q1), iv (48 + q2), rv b189, rv sa_196, rv sa_211, rv sa_221, rv sa_227, rv b228, rv sa_255] [(.ref b228), (.ref sa_211)])) rfl (by rw [hml]; rfl) (Steps.refl _) (argsL := [(.ref b228)]) (rest := []) (lenOf pd_20 rfl) rfl (by show 2 * 0 + _ ≤ _; exact Nat.le_of_eq rfl) (hb hby at_237) (fun _ _ => ⟨rfl, e278, (by decide : 16 + 0 ≤ _), (by decide : 54 + 0 ≤ _)⟩)
        dsimp only [Pt.U, Pt.locs, Pt.cells, Pt.slots] at X305 lq305 yq305 zq305 st305 hQ305
        subst lq305 yq305 zq305
        obtain ⟨h305, e305⟩ : ∃ z, T305.heap = z := ⟨_, rfl⟩
        rw [e305] at hQ305
        obtain ⟨rfl, N305q, he305⟩ := hQ305
        have N305 := Fr.app N278 N305q
        rw [he305] at e305
        refine go_tr st305 ?_
        show Go _ _ _ _ (T305.setTop (mkF m 240 #[iv p0, iv p1, iv p2, iv 1, iv 0, iv q1, iv q2, iv (48 + q1), iv (48 + q2), rv b189, rv sa_196, rv sa_211, rv sa_221, rv sa_227, rv b228, rv sa_255] [(.int 1)]))
        refine go_st (fun t k => XS.ifNo X305.here hx rfl (hb hby at_240) rfl ((if0 _ _).trans (feq ((by decide) : ¬ ((1 : Int32) = (0 : Int32)))).1) k) ?_
        show Go _ _ _ _ (T305.setTop (mkF m 243 #[iv p0, iv p1, iv p2, iv 1, iv 0, iv q1, iv q2, iv (48 + q1), iv (48 + q2), rv b189, rv sa_196, rv sa_211, rv sa_221, rv sa_227, rv b228, rv sa_255] []))
        refine go_st (fun t k => XS.aload X305.here hx rfl (hb hby at_243) rfl rfl k) ?_
        refine go_st (fun t k => XS.aload X305.here hx rfl (hb hby at_245) rfl rfl k) ?_
        show Go _ _ _ _ (T305.setTop (mkF m 247 #[iv p0, iv p1, iv p2, iv 1, iv 0, iv q1, iv q2, iv (48 + q1), iv (48 + q2), rv b189, rv sa_196, rv sa_211, rv sa_221, rv sa_227, rv b228, rv sa_255] [(.ref sa_255), (.ref sa_221)]))
        have f306 : Exa Z h255 sa_221 cST := (((((((p221_2.keep K227).ext E228).ext E231).wr W233).wr W237).keep K251).keep K255)
        have sz307 : h193.size ≤ h211.size := (Nat.le_trans sz285 K211.1)
        have sz308 : h193.size ≤ h218.size := (Nat.le_trans sz307 K218.1)
        have nq309 : sb_193 ≠ sa_221 := Nat.ne_of_lt (Nat.lt_of_lt_of_le (Nat.lt_of_lt_of_le p193_5.lt sz308) lf221_0)
        have sz310 : h221.size ≤ h228.size := (Nat.le_trans K227.1 E228.1)
        have nq311 : sa_221 ≠ b231 := Nat.ne_of_lt (Nat.lt_of_lt_of_le (Nat.lt_of_lt_of_le p221_2.lt sz310) (Nat.le_of_eq gq231.symm))
        have nq312 : sa_221 ≠ b228 := Nat.ne_of_lt (Nat.lt_of_lt_of_le (Nat.lt_of_lt_of_le p221_2.lt K227.1) (Nat.le_of_eq gq228.symm))
        have f313 : Fld Z h255 sa_221 cST "value" "[B" (.ref ta_221) := (((((((p221_3.keep K227 (ninS (Ne.symm nq309) nin0)).ext E228).ext E231).other W233 (Or.inl nq311)).other W237 (Or.inl nq311)).keep K251 (ninS nq312 nin0)).keep K255 nin0)
        have f314 : Fld Z h255 sa_221 cST "coder" "B" (.int 0) := (((((((p221_4.keep K227 (ninS (Ne.symm nq309) nin0)).ext E228).ext E231).other W233 (Or.inl nq311)).other W237 (Or.inl nq311)).keep K251 (ninS nq312 nin0)).keep K255 nin0)
        have nq315 : sb_193 ≠ ta_221 := Nat.ne_of_lt (Nat.lt_of_lt_of_le (Nat.lt_of_lt_of_le p193_5.lt sz308) lf221_1)
        have nq316 : ta_221 ≠ b231 := Nat.ne_of_lt (Nat.lt_of_lt_of_le (Nat.lt_of_lt_of_le p221_5.lt sz310) (Nat.le_of_eq gq231.symm))
        have nq317 : ta_221 ≠ b228 := Nat.ne_of_lt (Nat.lt_of_lt_of_le (Nat.lt_of_lt_of_le p221_5.lt K227.1) (Nat.le_of_eq gq228.symm))
        have f318 : Arv Z h255 ta_221 kt_221 .byte (1 : Int32) [(.int (nar .byte ((93 : Int32).toInt8.toInt32)))] (.int (0 : Int32)) := (((((((p221_5.keep K227 (ninS (Ne.symm nq315) nin0)).ext E228).ext E231).other W233 nq316).other W237 nq316).keep K251 (ninS nq317 nin0)).keep K255 nin0)
        have sz319 : h221.size ≤ h231.size := (Nat.le_trans sz310 E231.1)
        have sz320 : h221.size ≤ h233.size := (Nat.le_trans sz319 (Nat.le_of_eq W233.size.symm))
        have sz321 : h221.size ≤ h237.size := (Nat.le_trans sz320 (Nat.le_of_eq W237.size.symm))
        have sz322 : h221.size ≤ h251.size := (Nat.le_trans sz321 K251.1)
        have nq323 : sa_221 ≠ sa_255 := Nat.ne_of_lt (Nat.lt_of_lt_of_le (Nat.lt_of_lt_of_le p221_2.lt sz322) lf255_0)
        obtain ⟨cq324, kq324, q324a, q324b, q324c⟩ := isOf hZ e305 f306
        obtain ⟨_, _, ⟨T324, L324, kk324, nn324⟩, -, X324, ⟨Lc324, hQ324, lq324, yq324, zq324⟩, st324⟩ := X305.virtualBack hx (y := mn30) (z := mn30) hown (mvT hZ (w166 hw)) (mvT hZ (w167 hw)) (nf_same (y := mn30) (y' := mn29) (a0 := #[]) rfl (mvT hZ (w163 hw)) (notFace_of_selects (args := #[]) (mvT hZ (w164 hw)))) (mvT hZ (w169 hw)) (mvT hZ (w168 hw)) (by decide) (backOf (W := 0) (rm_seq1 l Z a0 hw [] sa_221 ta_221 kt_221 (nar .byte ((93 : Int32).toInt8.toInt32)) sa_255 ta_255 kt_255 (nar .byte ((93 : Int32).toInt8.toInt32)) G1 h255 n0 (Nat.le_trans Z0 sz277) f306 f313 f314 f318 p255_2 p255_3 p255_4 p255_5 nq323 (by decide) CS CSn oe276) hZ (w170 hw) (w24 hw) (by decide) (by decide)) q324a q324c (g := (mkF m 247 #[iv p0, iv p1, iv p2, iv 1, iv 0, iv q1, iv q2, iv (48 + q1), iv (48 + q2), rv b189, rv sa_196, rv sa_211, rv sa_221, rv sa_227, rv b228, rv sa_255] [(.ref sa_255), (.ref sa_221)])) rfl (by rw [hml]; rfl) (Steps.refl _) (argsL := [(.ref sa_255)]) (rest := []) (lenOf pd_20 rfl) rfl (by show 2 * 0 + _ ≤ _; exact Nat.le_of_eq rfl) (hb hby at_247) (fun _ _ => ⟨rfl, e305, (by decide : 16 + 0 ≤ _), (by decide : 54 + 0 ≤ _)⟩)
        dsimp only [Pt.U, Pt.locs, Pt.cells, Pt.slots] at X324 lq324 yq324 zq324 st324 hQ324
        subst lq324 yq324 zq324
        obtain ⟨h324, e324⟩ : ∃ z, T324.heap = z := ⟨_, rfl⟩
        rw [e324] at hQ324
        obtain ⟨rfl, N324q, he324⟩ := hQ324
        have N324 := Fr.app N305 N324q
        rw [he324] at e324
        refine go_tr st324 ?_
        show Go _ _ _ _ (T324.setTop (mkF m 250 #[iv p0, iv p1, iv p2, iv 1, iv 0, iv q1, iv q2, iv (48 + q1), iv (48 + q2), rv b189, rv sa_196, rv sa_211, rv sa_221, rv sa_227, rv b228, rv sa_255] [(.int 1)]))
        refine go_st (fun t k => XS.ifNo X324.here hx rfl (hb hby at_250) rfl ((if0 _ _).trans (feq ((by decide) : ¬ ((1 : Int32) = (0 : Int32)))).1) k) ?_
        show Go _ _ _ _ (T324.setTop (mkF m 253 #[iv p0, iv p1, iv p2, iv 1, iv 0, iv q1, iv q2, iv (48 + q1), iv (48 + q2), rv b189, rv sa_196, rv sa_211, rv sa_221, rv sa_227, rv b228, rv sa_255] []))
        refine go_st (fun t k => XS.aload X324.here hx rfl (hb hby at_253) rfl rfl k) ?_
        show Go _ _ _ _ (T324.setTop (mkF m 255 #[iv p0, iv p1, iv p2, iv 1, iv 0, iv q1, iv q2, iv (48 + q1), iv (48 + q2), rv b189, rv sa_196, rv sa_211, rv sa_221, rv sa_227, rv b228, rv sa_255] [(.ref sa_227)]))
        have f325 : Exa Z h255 sa_227 cST := ((((((p227_2.ext E228).ext E231).wr W233).wr W237).keep K251).keep K255)
        have nq326 : sa_227 ≠ b231 := Nat.ne_of_lt (Nat.lt_of_lt_of_le (Nat.lt_of_lt_of_le p227_2.lt E228.1) (Nat.le_of_eq gq231.symm))
        have nq327 : sa_227 ≠ b228 := Nat.ne_of_lt (Nat.lt_of_lt_of_le (Nat.lt_of_lt_of_le p227_2.lt (Nat.le_refl _)) (Nat.le_of_eq gq228.symm))
        have f328 : Fld Z h255 sa_227 cST "value" "[B" (.ref ta_227) := ((((((p227_3.ext E228).ext E231).other W233 (Or.inl nq326)).other W237 (Or.inl nq326)).keep K251 (ninS nq327 nin0)).keep K255 nin0)
        have f329 : Fld Z h255 sa_227 cST "coder" "B" (.int 0) := ((((((p227_4.ext E228).ext E231).other W233 (Or.inl nq326)).other W237 (Or.inl nq326)).keep K251 (ninS nq327 nin0)).keep K255 nin0)
        have nq330 : ta_227 ≠ b231 := Nat.ne_of_lt (Nat.lt_of_lt_of_le (Nat.lt_of_lt_of_le p227_5.lt E228.1) (Nat.le_of_eq gq231.symm))
        have nq331 : ta_227 ≠ b228 := Nat.ne_of_lt (Nat.lt_of_lt_of_le (Nat.lt_of_lt_of_le p227_5.lt (Nat.le_refl _)) (Nat.le_of_eq gq228.symm))
        have f332 : Arv Z h255 ta_227 kt_227 .byte (0 : Int32) [] (.int (0 : Int32)) := ((((((p227_5.ext E228).ext E231).other W233 nq330).other W237 nq330).keep K251 (ninS nq331 nin0)).keep K255 nin0)
        obtain ⟨cq333, kq333, q333a, q333b, q333c⟩ := isOf hZ e324 f325
        obtain ⟨_, _, ⟨T333, L333, kk333, nn333⟩, -, X333, ⟨Lc333, hQ333, lq333, yq333, zq333⟩, st333⟩ := X324.virtualBack hx (y := mn29) (z := mn29) hown (mvT hZ (w161 hw)) (mvT hZ (w162 hw)) (notFace_of_selects (args := #[]) (mvT hZ (w164 hw))) (mvT hZ (w164 hw)) (mvT hZ (w163 hw)) (by decide) (backOf (W := 0) (rm_sisEmpty0 l Z a0 hw [] sa_227 ta_227 kt_227 G1 h255 n0 (Nat.le_trans Z0 sz277) f325 f328 f329 f332 CS CSn oe276) hZ (w165 hw) (w24 hw) (by decide) (by decide)) q333a q333c (g := (mkF m 255 #[iv p0, iv p1, iv p2, iv 1, iv 0, iv q1, iv q2, iv (48 + q1), iv (48 + q2), rv b189, rv sa_196, rv sa_211, rv sa_221, rv sa_227, rv b228, rv sa_255] [(.ref sa_227)])) rfl (by rw [hml]; rfl) (Steps.refl _) (argsL := []) (rest := []) (lenOf pd_4 rfl) rfl (by show 2 * 0 + _ ≤ _; exact Nat.le_of_eq rfl) (hb hby at_255) (fun _ _ => ⟨rfl, e324, (by decide : 16 + 0 ≤ _), (by decide : 54 + 0 ≤ _)⟩)
        dsimp only [Pt.U, Pt.locs, Pt.cells, Pt.slots] at X333 lq333 yq333 zq333 st333 hQ333
        subst lq333 yq333 zq333
        obtain ⟨h333, e333⟩ : ∃ z, T333.heap = z := ⟨_, rfl⟩
        rw [e333] at hQ333
        obtain ⟨rfl, N333q, he333⟩ := hQ333
        have N333 := Fr.app N324 N333q
        rw [he333] at e333
        refine go_tr st333 ?_
        show Go _ _ _ _ (T333.setTop (mkF m 258 #[iv p0, iv p1, iv p2, iv 1, iv 0, iv q1, iv q2, iv (48 + q1), iv (48 + q2), rv b189, rv sa_196, rv sa_211, rv sa_221, rv sa_227, rv b228, rv sa_255] [(.int 1)]))
        refine go_st (fun t k => XS.ifNo X333.here hx rfl (hb hby at_258) rfl ((if0 _ _).trans (feq ((by decide) : ¬ ((1 : Int32) = (0 : Int32)))).1) k) ?_
        show Go _ _ _ _ (T333.setTop (mkF m 261 #[iv p0, iv p1, iv p2, iv 1, iv 0, iv q1, iv q2, iv (48 + q1), iv (48 + q2), rv b189, rv sa_196, rv sa_211, rv sa_221, rv sa_227, rv b228, rv sa_255] []))
        refine go_st (fun t k => XS.iconst X333.here hx rfl (hb hby at_261) k) ?_
        refine go_st (fun t k => XS.goto X333.here hx rfl (pc0 := 262) (pc' := 266) rfl (hb hby at_262) (by decide) (by decide) k) ?_
        show Go _ _ _ _ (T333.setTop (mkF m 266 #[iv p0, iv p1, iv p2, iv 1, iv 0, iv q1, iv q2, iv (48 + q1), iv (48 + q2), rv b189, rv sa_196, rv sa_211, rv sa_221, rv sa_227, rv b228, rv sa_255] [(.int 1)]))
        subst hPP
        have ke334 : Keep h0 h189 [] := (Keep.ext (Keep.refl h0 []) E189)
        have ke335 : Keep h0 h193 [] := (Keep.trans ke334 K193 (allS (Or.inr (Nat.le_of_eq gq189.symm)) all0))
        have ke336 : Keep h0 h196 [] := (Keep.trans ke335 K196 (allS (Or.inr (Nat.le_trans E189.1 lf193_0)) all0))
        have ke337 : Keep h0 h205 [] := (Keep.trans ke336 K205 (allS (Or.inr (Nat.le_trans E189.1 lf193_0)) (allS (Or.inr (Nat.le_trans E189.1 lf193_1)) (allS (Or.inr (Nat.le_of_eq gq189.symm)) all0))))
        have ke338 : Keep h0 h208 [] := (Keep.trans ke337 K208 (allS (Or.inr (Nat.le_trans E189.1 lf193_0)) (allS (Or.inr (Nat.le_trans E189.1 lf193_1)) (allS (Or.inr (Nat.le_of_eq gq189.symm)) all0))))
        have ke339 : Keep h0 h211 [] := (Keep.trans ke338 K211 (allS (Or.inr (Nat.le_trans E189.1 lf193_0)) all0))
        have ke340 : Keep h0 h218 [] := (Keep.trans ke339 K218 (allS (Or.inr (Nat.le_trans E189.1 lf193_0)) (allS (Or.inr (Nat.le_trans E189.1 lf193_1)) (allS (Or.inr (Nat.le_of_eq gq189.symm)) all0))))
        have ke341 : Keep h0 h221 [] := (Keep.trans ke340 K221 (allS (Or.inr (Nat.le_trans E189.1 lf193_0)) all0))
        have ke342 : Keep h0 h227 [] := (Keep.trans ke341 K227 (allS (Or.inr (Nat.le_trans E189.1 lf193_0)) all0))
        have ke343 : Keep h0 h228 [] := (Keep.ext ke342 E228)
        have ke344 : Keep h0 h231 [] := (Keep.ext ke343 E231)
        have ke345 : Keep h0 h233 [] := (Keep.wr ke344 W233 (Or.inr (Nat.le_trans sz235 (Nat.le_of_eq gq231.symm))))
        have ke346 : Keep h0 h237 [] := (Keep.wr ke345 W237 (Or.inr (Nat.le_trans sz235 (Nat.le_of_eq gq231.symm))))
        have ke347 : Keep h0 h251 [] := (Keep.trans ke346 K251 (allS (Or.inr (Nat.le_trans sz234 (Nat.le_of_eq gq228.symm))) all0))
        have ke348 : Keep h0 h255 [] := (Keep.trans ke347 K255 all0)
        obtain ⟨fs, hr, hrun, hended, hW, hsame⟩ := X333.leave (v := some (.int 1)) (fun h => by rw [Bd.returns] at h; cases h)
        refine ⟨_, _, ?_, hrun, hended, _, _, rfl, ?_, ⟨_, rfl⟩, hW, hsame.mono (by decide) (by decide)⟩
        · exact retN X333 hx (t := .boolean) Bd.returns (by simp) (hb hby at_266) hr
        · show Q_law _ _ _ _ _ _ _ _ _ _ T333.heap _
          rw [e333]
          exact ⟨rfl, N333, ke348⟩
      · skip
        show Go _ _ _ _ (T211.setTop (mkF m 103 #[iv p0, iv p1, iv p2, iv 1, iv 1, iv q1, iv q2, iv (48 + q1), iv (48 + q2), rv b189, rv sa_196, rv sa_211, .unset, .unset, .unset, .unset] [(.int 1)]))
        refine go_st (fun t k => XS.ifNo X211.here hx rfl (hb hby at_103) rfl ((if0 _ _).trans (feq ((by decide) : ¬ ((1 : Int32) = (0 : Int32)))).1) k) ?_
        show Go _ _ _ _ (T211.setTop (mkF m 106 #[iv p0, iv p1, iv p2, iv 1, iv 1, iv q1, iv q2, iv (48 + q1), iv (48 + q2), rv b189, rv sa_196, rv sa_211, .unset, .unset, .unset, .unset] []))
        refine go_st (fun t k => XS.aload X211.here hx rfl (hb hby at_106) rfl rfl k) ?_
        refine go_st (fun t k => XS.iload X211.here hx rfl (hb hby at_108) rfl k) ?_
        show Go _ _ _ _ (T211.setTop (mkF m 110 #[iv p0, iv p1, iv p2, iv 1, iv 1, iv q1, iv q2, iv (48 + q1), iv (48 + q2), rv b189, rv sa_196, rv sa_211, .unset, .unset, .unset, .unset] [(.int q2), (.ref b189)]))
        refine go_st (fun t k => XS.i2l X211.here hx rfl (hb hby at_110) rfl k) ?_
        show Go _ _ _ _ (T211.setTop (mkF m 111 #[iv p0, iv p1, iv p2, iv 1, iv 1, iv q1, iv q2, iv (48 + q1), iv (48 + q2), rv b189, rv sa_196, rv sa_211, .unset, .unset, .unset, .unset] [(.long ((q2).toInt64)), (.ref b189)]))
        have f349 : Exa Z h211 b189 cJW := (p208_0.keep K211)
        have f350 : Fld Z h211 b189 cJW "text" "Ljava/lang/StringBuilder;" (.ref sb_193) := (p208_1.keep K211 (ninS nq198 nin0))
        have f351 : Fld Z h211 b189 cJW "afterValue" "Z" (.int 1) := (p208_2.keep K211 (ninS nq198 nin0))
        have f352 : Arv Z h211 va_193 kv_193 .byte (16 : Int32) [(.int (nar .byte ((91 : Int32).toInt8.toInt32))), (.int (48 + q1))] (.int (0 : Int32)) := (p208_8.keep K211 (ninS nq201 nin0))
        have oe353 : Old Z n0 h211 := (Old.keep oe209 K211 (allS gf193_0 all0))
        have sz354 : h0.size ≤ h211.size := (Nat.le_trans sz210 K211.1)
        obtain ⟨cq355, kq355, q355a, q355b, q355c⟩ := isOf hZ e211 f349
        obtain ⟨_, _, ⟨T355, L355, kk355, nn355⟩, -, X355, ⟨Lc355, hQ355, lq355, yq355, zq355⟩, st355⟩ := X211.virtualBack hx (y := mn32) (z := mn32) hown (mvT hZ (w174 hw)) (mvT hZ (w175 hw)) (nf_same (y := mn32) (y' := mn3) (a0 := #[]) rfl (mvT hZ (w34 hw)) (notFace_of_selects (args := #[]) (mvT hZ (w35 hw)))) (mvT hZ (w177 hw)) (mvT hZ (w176 hw)) (by decide) (backOf (W := 0) (rm_number01 l Z a0 hw [] b189 sb_193 va_193 kv_193 (nar .byte ((91 : Int32).toInt8.toInt32)) (48 + q1) (1 : Int32) q2 da dc G1 h211 n0 (Nat.le_trans Z0 sz354) f349 f350 f351 p211_6 p211_7 p211_8 p211_9 p211_10 f352 gf193_0 gf193_1 g_b189 hq2 DS DA DV CS CSn oe353) hZ (w178 hw) (w3 hw) (by decide) (by decide)) q355a q355c (g := (mkF m 111 #[iv p0, iv p1, iv p2, iv 1, iv 1, iv q1, iv q2, iv (48 + q1), iv (48 + q2), rv b189, rv sa_196, rv sa_211, .unset, .unset, .unset, .unset] [(.long ((q2).toInt64)), (.ref b189)])) rfl (by rw [hml]; rfl) (Steps.refl _) (argsL := [(.long ((q2).toInt64))]) (rest := []) (lenOf pd_25 rfl) rfl (by show 2 * 0 + _ ≤ _; exact Nat.le_of_eq rfl) (hb hby at_111) (fun _ _ => ⟨rfl, e211, (by decide : 7 + 0 ≤ _), (by decide : 32 + 0 ≤ _)⟩)
        dsimp only [Pt.U, Pt.locs, Pt.cells, Pt.slots] at X355 lq355 yq355 zq355 st355 hQ355
        subst lq355 yq355 zq355
        obtain ⟨h355, e355⟩ : ∃ z, T355.heap = z := ⟨_, rfl⟩
        rw [e355] at hQ355
        obtain ⟨rfl, N355q, K355, p355_0, p355_1, p355_2, p355_3, p355_4, p355_5, p355_6, p355_7, p355_8⟩ := hQ355
        have N355 := Fr.app N211 N355q
        refine go_tr st355 ?_
        show Go _ _ _ _ (T355.setTop (mkF m 114 #[iv p0, iv p1, iv p2, iv 1, iv 1, iv q1, iv q2, iv (48 + q1), iv (48 + q2), rv b189, rv sa_196, rv sa_211, .unset, .unset, .unset, .unset] [(.ref b189)]))
        refine go_st (fun t k => XS.pop X355.here hx rfl (hb hby at_114) rfl rfl k) ?_
        refine go_st (fun t k => XS.goto X355.here hx rfl (pc0 := 115) (pc' := 124) rfl (hb hby at_115) (by decide) (by decide) k) ?_
        show Go _ _ _ _ (T355.setTop (mkF m 124 #[iv p0, iv p1, iv p2, iv 1, iv 1, iv q1, iv q2, iv (48 + q1), iv (48 + q2), rv b189, rv sa_196, rv sa_211, .unset, .unset, .unset, .unset] []))
        refine go_st (fun t k => XS.aload X355.here hx rfl (hb hby at_124) rfl rfl k) ?_
        show Go _ _ _ _ (T355.setTop (mkF m 126 #[iv p0, iv p1, iv p2, iv 1, iv 1, iv q1, iv q2, iv (48 + q1), iv (48 + q2), rv b189, rv sa_196, rv sa_211, .unset, .unset, .unset, .unset] [(.ref b189)]))
        have oe356 : Old Z n0 h355 := (Old.keep oe353 K355 (allS gf193_0 (allS gf193_1 (allS g_b189 all0))))
        have sz357 : h0.size ≤ h355.size := (Nat.le_trans sz354 K355.1)
        obtain ⟨cq358, kq358, q358a, q358b, q358c⟩ := isOf hZ e355 p355_0
        obtain ⟨_, _, ⟨T358, L358, kk358, nn358⟩, -, X358, ⟨Lc358, hQ358, lq358, yq358, zq358⟩, st358⟩ := X355.virtualBack hx (y := mn3) (z := mn3) hown (mvT hZ (w32 hw)) (mvT hZ (w33 hw)) (notFace_of_selects (args := #[]) (mvT hZ (w35 hw))) (mvT hZ (w35 hw)) (mvT hZ (w34 hw)) (by decide) (backOf (W := 0) (rm_drain2 l Z a0 hw [] b189 sb_193 va_193 kv_193 (nar .byte ((44 : Int32).toInt8.toInt32)) (48 + q2) (1 : Int32) G1 h355 n0 (Nat.le_trans Z0 sz357) p355_0 p355_1 p355_3 p355_4 p355_5 p355_6 p355_7 p355_8 gf193_0 CS CSn oe356) hZ (w36 hw) (w3 hw) (by decide) (by decide)) q358a q358c (g := (mkF m 126 #[iv p0, iv p1, iv p2, iv 1, iv 1, iv q1, iv q2, iv (48 + q1), iv (48 + q2), rv b189, rv sa_196, rv sa_211, .unset, .unset, .unset, .unset] [(.ref b189)])) rfl (by rw [hml]; rfl) (Steps.refl _) (argsL := []) (rest := []) (lenOf pd_10 rfl) rfl (by show 2 * 0 + _ ≤ _; exact Nat.le_of_eq rfl) (hb hby at_126) (fun _ _ => ⟨rfl, e355, (by decide : 7 + 2 ≤ _), (by decide : 32 + 6 ≤ _)⟩)
        dsimp only [Pt.U, Pt.locs, Pt.cells, Pt.slots] at X358 lq358 yq358 zq358 st358 hQ358
        subst lq358 yq358 zq358
        obtain ⟨h358, e358⟩ : ∃ z, T358.heap = z := ⟨_, rfl⟩
        rw [e358] at hQ358
        obtain ⟨sa_358, ta_358, kt_358, rfl, N358q, K358, gf358_0, lf358_0, gf358_1, lf358_1, p358_2, p358_3, p358_4, p358_5, p358_6, p358_7, p358_8, p358_9, p358_10⟩ := hQ358
        have N358 := Fr.app N355 N358q
        refine go_tr st358 ?_
        refine go_st (fun t k => XS.astore X358.here hx rfl (hb hby at_129) rfl rfl (l' := #[iv p0, iv p1, iv p2, iv 1, iv 1, iv q1, iv q2, iv (48 + q1), iv (48 + q2), rv b189, rv sa_196, rv sa_211, rv sa_358, .unset, .unset, .unset]) rfl k) ?_
        refine go_st (fun t k => XS.aload X358.here hx rfl (hb hby at_131) rfl rfl k) ?_
        show Go _ _ _ _ (T358.setTop (mkF m 133 #[iv p0, iv p1, iv p2, iv 1, iv 1, iv q1, iv q2, iv (48 + q1), iv (48 + q2), rv b189, rv sa_196, rv sa_211, rv sa_358, .unset, .unset, .unset] [(.ref b189)]))
        have f359 : Exa Z h358 b189 cJW := (p355_0.keep K358)
        have f360 : Fld Z h358 b189 cJW "text" "Ljava/lang/StringBuilder;" (.ref sb_193) := (p355_1.keep K358 (ninS nq198 nin0))
        have f361 : Arv Z h358 va_193 kv_193 .byte (16 : Int32) [(.int (nar .byte ((44 : Int32).toInt8.toInt32))), (.int (48 + q2))] (.int (0 : Int32)) := (p355_8.keep K358 (ninS nq201 nin0))
        have oe362 : Old Z n0 h358 := (Old.keep oe356 K358 (allS gf193_0 all0))
        have sz363 : h0.size ≤ h358.size := (Nat.le_trans sz357 K358.1)
        obtain ⟨cq364, kq364, q364a, q364b, q364c⟩ := isOf hZ e358 f359
        obtain ⟨_, _, ⟨T364, L364, kk364, nn364⟩, -, X364, ⟨Lc364, hQ364, lq364, yq364, zq364⟩, st364⟩ := X358.virtualBack hx (y := mn3) (z := mn3) hown (mvT hZ (w32 hw)) (mvT hZ (w33 hw)) (notFace_of_selects (args := #[]) (mvT hZ (w35 hw))) (mvT hZ (w35 hw)) (mvT hZ (w34 hw)) (by decide) (backOf (W := 0) (rm_drain0 l Z a0 hw [] b189 sb_193 va_193 kv_193 (nar .byte ((44 : Int32).toInt8.toInt32)) (48 + q2) (1 : Int32) G1 h358 n0 (Nat.le_trans Z0 sz363) f359 f360 p358_6 p358_7 p358_8 p358_9 p358_10 f361 gf193_0 CS CSn oe362) hZ (w36 hw) (w3 hw) (by decide) (by decide)) q364a q364c (g := (mkF m 133 #[iv p0, iv p1, iv p2, iv 1, iv 1, iv q1, iv q2, iv (48 + q1), iv (48 + q2), rv b189, rv sa_196, rv sa_211, rv sa_358, .unset, .unset, .unset] [(.ref b189)])) rfl (by rw [hml]; rfl) (Steps.refl _) (argsL := []) (rest := []) (lenOf pd_10 rfl) rfl (by show 2 * 0 + _ ≤ _; exact Nat.le_of_eq rfl) (hb hby at_133) (fun _ _ => ⟨rfl, e358, (by decide : 9 + 2 ≤ _), (by decide : 38 + 4 ≤ _)⟩)
        dsimp only [Pt.U, Pt.locs, Pt.cells, Pt.slots] at X364 lq364 yq364 zq364 st364 hQ364
        subst lq364 yq364 zq364
        obtain ⟨h364, e364⟩ : ∃ z, T364.heap = z := ⟨_, rfl⟩
        rw [e364] at hQ364
        obtain ⟨sa_364, ta_364, kt_364, rfl, N364q, K364, gf364_0, lf364_0, gf364_1, lf364_1, p364_2, p364_3, p364_4, p364_5, p364_6, p364_7, p364_8, p364_9, p364_10⟩ := hQ364
        have N364 := Fr.app N358 N364q
        refine go_tr st364 ?_
        refine go_st (fun t k => XS.astore X364.here hx rfl (hb hby at_136) rfl rfl (l' := #[iv p0, iv p1, iv p2, iv 1, iv 1, iv q1, iv q2, iv (48 + q1), iv (48 + q2), rv b189, rv sa_196, rv sa_211, rv sa_358, rv sa_364, .unset, .unset]) rfl k) ?_
        refine go_st (fun t k => XS.iloadN X364.here hx rfl (hb hby at_138) rfl k) ?_
        show Go _ _ _ _ (T364.setTop (mkF m 139 #[iv p0, iv p1, iv p2, iv 1, iv 1, iv q1, iv q2, iv (48 + q1), iv (48 + q2), rv b189, rv sa_196, rv sa_211, rv sa_358, rv sa_364, .unset, .unset] [(.int 1)]))
        refine go_st (fun t k => XS.ifNo X364.here hx rfl (hb hby at_139) rfl ((if0 _ _).trans (feq ((by decide) : ¬ ((1 : Int32) = (0 : Int32)))).1) k) ?_
        show Go _ _ _ _ (T364.setTop (mkF m 142 #[iv p0, iv p1, iv p2, iv 1, iv 1, iv q1, iv q2, iv (48 + q1), iv (48 + q2), rv b189, rv sa_196, rv sa_211, rv sa_358, rv sa_364, .unset, .unset] []))
        obtain ⟨T365, h365, X365, e365, E365, A365, D365, -, st365⟩ := newO X364 hx hZ hown (w199 hw) (w43 hw) (w24 hw) e364 (g := (mkF m 142 #[iv p0, iv p1, iv p2, iv 1, iv 1, iv q1, iv q2, iv (48 + q1), iv (48 + q2), rv b189, rv sa_196, rv sa_211, rv sa_358, rv sa_364, .unset, .unset] [])) rfl (hb hby at_142) (by decide) (by decide)
        obtain ⟨b365, gq365⟩ : ∃ z, z = h364.size := ⟨_, rfl⟩
        rw [← gq365] at A365 D365 st365
        have f366 : Fld Z h365 b365 cST "coder" "B" (.int 0) := D365 (Or.inr (w74 hw)) (ty := .byte) (by decide)
        have f367 : Fld Z h365 b365 cST "value" "[B" .null := D365 (Or.inr (w94 hw)) (ty := (.array .byte)) (by decide)
        refine go_st (fun t k => st365 t k) ?_
        refine go_st (fun t k => XS.dup X365.here hx rfl (hb hby at_145) rfl rfl k) ?_
        refine go_st (fun t k => XS.iconst X365.here hx rfl (hb hby at_146) k) ?_
        show Go _ _ _ _ (T365.setTop (mkF m 147 #[iv p0, iv p1, iv p2, iv 1, iv 1, iv q1, iv q2, iv (48 + q1), iv (48 + q2), rv b189, rv sa_196, rv sa_211, rv sa_358, rv sa_364, .unset, .unset] [(.int 2), (.ref b365), (.ref b365)]))
        obtain ⟨T368, h368, kc368, X368, e368, E368, A368, st368⟩ := newP X365 hx hZ (aty := .char) (w200 hw) e365 (g := (mkF m 147 #[iv p0, iv p1, iv p2, iv 1, iv 1, iv q1, iv q2, iv (48 + q1), iv (48 + q2), rv b189, rv sa_196, rv sa_211, rv sa_358, rv sa_364, .unset, .unset] [(.int 2), (.ref b365), (.ref b365)])) rfl (hb hby at_147) rfl (by decide) (cap := 2) (by decide) (by decide) (by decide) (by decide)
        obtain ⟨b368, gq368⟩ : ∃ z, z = h365.size := ⟨_, rfl⟩
        rw [← gq368] at A368 st368
        have f369 : Arv Z h368 b368 kc368 .char (2 : Int32) [(.int 0), (.int 0)] (.int 0) := (Arv.new A368 (by decide)).pad (pad_rep [] (.int 0) 2)
        refine go_st (fun t k => st368 t k) ?_
        refine go_st (fun t k => XS.dup X368.here hx rfl (hb hby at_149) rfl rfl k) ?_
        refine go_st (fun t k => XS.iconst X368.here hx rfl (hb hby at_150) k) ?_
        refine go_st (fun t k => XS.bipush X368.here hx rfl (hb hby at_151) k) ?_
        show Go _ _ _ _ (T368.setTop (mkF m 153 #[iv p0, iv p1, iv p2, iv 1, iv 1, iv q1, iv q2, iv (48 + q1), iv (48 + q2), rv b189, rv sa_196, rv sa_211, rv sa_358, rv sa_364, .unset, .unset] [(.int 91), (.int 0), (.ref b368), (.ref b368), (.ref b365), (.ref b365)]))
        obtain ⟨zc370, zA370, zq370, zS370, zN370, zH370, zG370⟩ := id f369
        have hin370 : ¬ ((0 : Int32) < 0 ∨ zc370.slots.size ≤ ((0 : Int32)).toNatClampNeg) := inb_of zS370 ⟨by decide, by decide⟩
        obtain ⟨T370, h370, X370, e370, W370, st370⟩ := stC X368 hx hZ e368 zA370 (j := (0 : Int32)) hin370 (g := (mkF m 153 #[iv p0, iv p1, iv p2, iv 1, iv 1, iv q1, iv q2, iv (48 + q1), iv (48 + q2), rv b189, rv sa_196, rv sa_211, rv sa_358, rv sa_364, .unset, .unset] [(.int 91), (.int 0), (.ref b368), (.ref b368), (.ref b365), (.ref b365)])) rfl rfl (hb hby at_153)
        have sz371 : h0.size ≤ h364.size := (Nat.le_trans sz363 K364.1)
        have sz372 : h0.size ≤ h365.size := (Nat.le_trans sz371 E365.1)
        have g_b368 : n0 ≤ b368 := Nat.le_trans (Nat.le_trans Z0 sz372) (Nat.le_of_eq gq368.symm)
        have N370 := Fr.snoc X370 N364 g_b368
        have f373 : Arv Z h370 b368 kc368 .char (2 : Int32) [(.int (nar .char (91 : Int32))), (.int 0)] (.int 0) := Arv.set zA370 zq370 zS370 zN370 zH370 zG370 (fits_nar_char _) W370 0 rfl (Nat.le_of_ble_eq_true rfl)
        refine go_st (fun t k => st370 t k) ?_
        refine go_st (fun t k => XS.dup X370.here hx rfl (hb hby at_154) rfl rfl k) ?_
        refine go_st (fun t k => XS.iconst X370.here hx rfl (hb hby at_155) k) ?_
        refine go_st (fun t k => XS.iload X370.here hx rfl (hb hby at_156) rfl k) ?_
        show Go _ _ _ _ (T370.setTop (mkF m 158 #[iv p0, iv p1, iv p2, iv 1, iv 1, iv q1, iv q2, iv (48 + q1), iv (48 + q2), rv b189, rv sa_196, rv sa_211, rv sa_358, rv sa_364, .unset, .unset] [(.int (48 + q1)), (.int 1), (.ref b368), (.ref b368), (.ref b365), (.ref b365)]))
        obtain ⟨zc374, zA374, zq374, zS374, zN374, zH374, zG374⟩ := id f373
        have hin374 : ¬ ((1 : Int32) < 0 ∨ zc374.slots.size ≤ ((1 : Int32)).toNatClampNeg) := inb_of zS374 ⟨by decide, by decide⟩
        obtain ⟨T374, h374, X374, e374, W374, st374⟩ := stC X370 hx hZ e370 zA374 (j := (1 : Int32)) hin374 (g := (mkF m 158 #[iv p0, iv p1, iv p2, iv 1, iv 1, iv q1, iv q2, iv (48 + q1), iv (48 + q2), rv b189, rv sa_196, rv sa_211, rv sa_358, rv sa_364, .unset, .unset] [(.int (48 + q1)), (.int 1), (.ref b368), (.ref b368), (.ref b365), (.ref b365)])) rfl rfl (hb hby at_158)
        have N374 := Fr.snoc X374 N370 g_b368
        have f375 : Arv Z h374 b368 kc368 .char (2 : Int32) [(.int (nar .char (91 : Int32))), (.int (nar .char (48 + q1)))] (.int 0) := Arv.set zA374 zq374 zS374 zN374 zH374 zG374 (fits_nar_char _) W374 1 rfl (Nat.le_of_ble_eq_true rfl)
        refine go_st (fun t k => st374 t k) ?_
        show Go _ _ _ _ (T374.setTop (mkF m 159 #[iv p0, iv p1, iv p2, iv 1, iv 1, iv q1, iv q2, iv (48 + q1), iv (48 + q2), rv b189, rv sa_196, rv sa_211, rv sa_358, rv sa_364, .unset, .unset] [(.ref b368), (.ref b365), (.ref b365)]))
        have f376 : Exa Z h374 b365 cST := (((A365.ext E368).wr W370).wr W374)
        have nq377 : b365 ≠ b368 := Nat.ne_of_lt (Nat.lt_of_lt_of_le (Nat.lt_of_lt_of_le A365.lt (Nat.le_refl _)) (Nat.le_of_eq gq368.symm))
        have f378 : Fld Z h374 b365 cST "value" "[B" .null := (((f367.ext E368).other W370 (Or.inl nq377)).other W374 (Or.inl nq377))
        have f379 : Fld Z h374 b365 cST "coder" "B" (.int 0) := (((f366.ext E368).other W370 (Or.inl nq377)).other W374 (Or.inl nq377))
        have oe380 : Old Z n0 h364 := (Old.keep oe362 K364 (allS gf193_0 all0))
        have oe381 : Old Z n0 h365 := (Old.ext oe380 E365)
        have oe382 : Old Z n0 h368 := (Old.ext oe381 E368)
        have oe383 : Old Z n0 h370 := (Old.wr oe382 W370 g_b368)
        have oe384 : Old Z n0 h374 := (Old.wr oe383 W374 g_b368)
        have g_b365 : n0 ≤ b365 := Nat.le_trans (Nat.le_trans Z0 sz371) (Nat.le_of_eq gq365.symm)
        have sz385 : h0.size ≤ h368.size := (Nat.le_trans sz372 E368.1)
        have sz386 : h0.size ≤ h370.size := (Nat.le_trans sz385 (Nat.le_of_eq W370.size.symm))
        have sz387 : h0.size ≤ h374.size := (Nat.le_trans sz386 (Nat.le_of_eq W374.size.symm))
        obtain ⟨_, _, ⟨T388, L388, kk388, nn388⟩, -, X388, ⟨Lc388, hQ388, lq388, yq388, zq388⟩, st388⟩ := X374.specialBack hx (y := mn37) rfl hown (mvT hZ (w201 hw)) (mvT hZ (w202 hw)) (mvT hZ (w203 hw)) (by decide) (StrChars.Road.backV (W := 1) hZ (words_in str_words hw) (kI := 4) (w43 hw) (cs := ([(nar .char (91 : Int32)), (nar .char (48 + q1))] : List Int32)) (bs := ([(nar .char (91 : Int32)), (nar .char (48 + q1))] : List Int32).map (fun c => c.toInt8.toInt32)) (n := 2) g_b365 (Nat.le_trans Z0 sz387) f376 f378 f379 f375 (Sta.ext oe384.2 CS) CSn rfl rfl (by decide) (by decide) (chars_cons (c := (nar .char (91 : Int32))) (by decide) (chars_cons (c := (nar .char (48 + q1))) (dg_all (P := fun q1 => ¬ (nar .char (48 + q1)) < 0 ∧ ¬ (255 : Int32) < (nar .char (48 + q1))) hq1 (by decide +kernel)) chars_nil)) rfl (by decide) (by decide)) (g := (mkF m 159 #[iv p0, iv p1, iv p2, iv 1, iv 1, iv q1, iv q2, iv (48 + q1), iv (48 + q2), rv b189, rv sa_196, rv sa_211, rv sa_358, rv sa_364, .unset, .unset] [(.ref b368), (.ref b365), (.ref b365)])) rfl (by rw [hml]; rfl) (Steps.refl _) (a := b365) (argsL := [(.ref b368)]) (rest := [(.ref b365)]) (lenOf pd_26 rfl) rfl (by show 2 * 0 + _ ≤ _; exact Nat.le_of_eq rfl) (hb hby at_159) (fun _ _ => ⟨rfl, e374, (by decide : 13 + 1 ≤ _), (by decide : 48 + 2 ≤ _)⟩)
        dsimp only [Pt.U, Pt.locs, Pt.cells, Pt.slots] at X388 lq388 yq388 zq388 st388 hQ388
        subst lq388 yq388 zq388
        obtain ⟨h388, e388⟩ : ∃ z, T388.heap = z := ⟨_, rfl⟩
        rw [e388] at hQ388
        obtain ⟨rfl, N388q, K388, Es388, Cs388, t388, kb388, gt388, lt388, nt388, Vs388, As388⟩ := hQ388
        have N388 := Fr.app N374 N388q
        refine go_tr st388 ?_
        have f389 : Arv Z h388 t388 kb388 .byte (2 : Int32) [(.int ((nar .char (91 : Int32)).toInt8.toInt32)), (.int ((nar .char (48 + q1)).toInt8.toInt32))] (.int 0) := As388
        refine go_st (fun t k => XS.astore X388.here hx rfl (hb hby at_162) rfl rfl (l' := #[iv p0, iv p1, iv p2, iv 1, iv 1, iv q1, iv q2, iv (48 + q1), iv (48 + q2), rv b189, rv sa_196, rv sa_211, rv sa_358, rv sa_364, rv b365, .unset]) rfl k) ?_
        refine go_st (fun t k => XS.goto X388.here hx rfl (pc0 := 164) (pc' := 174) rfl (hb hby at_164) (by decide) (by decide) k) ?_
        show Go _ _ _ _ (T388.setTop (mkF m 174 #[iv p0, iv p1, iv p2, iv 1, iv 1, iv q1, iv q2, iv (48 + q1), iv (48 + q2), rv b189, rv sa_196, rv sa_211, rv sa_358, rv sa_364, rv b365, .unset] []))
        refine go_st (fun t k => XS.iload X388.here hx rfl (hb hby at_174) rfl k) ?_
        show Go _ _ _ _ (T388.setTop (mkF m 176 #[iv p0, iv p1, iv p2, iv 1, iv 1, iv q1, iv q2, iv (48 + q1), iv (48 + q2), rv b189, rv sa_196, rv sa_211, rv sa_358, rv sa_364, rv b365, .unset] [(.int 1)]))
        refine go_st (fun t k => XS.ifNo X388.here hx rfl (hb hby at_176) rfl ((if0 _ _).trans (feq ((by decide) : ¬ ((1 : Int32) = (0 : Int32)))).1) k) ?_
        show Go _ _ _ _ (T388.setTop (mkF m 179 #[iv p0, iv p1, iv p2, iv 1, iv 1, iv q1, iv q2, iv (48 + q1), iv (48 + q2), rv b189, rv sa_196, rv sa_211, rv sa_358, rv sa_364, rv b365, .unset] []))
        refine go_st (fun t k => XS.iloadN X388.here hx rfl (hb hby at_179) rfl k) ?_
        show Go _ _ _ _ (T388.setTop (mkF m 180 #[iv p0, iv p1, iv p2, iv 1, iv 1, iv q1, iv q2, iv (48 + q1), iv (48 + q2), rv b189, rv sa_196, rv sa_211, rv sa_358, rv sa_364, rv b365, .unset] [(.int 1)]))
        refine go_st (fun t k => XS.ifNo X388.here hx rfl (hb hby at_180) rfl ((if0 _ _).trans (feq ((by decide) : ¬ ((1 : Int32) = (0 : Int32)))).1) k) ?_
        show Go _ _ _ _ (T388.setTop (mkF m 183 #[iv p0, iv p1, iv p2, iv 1, iv 1, iv q1, iv q2, iv (48 + q1), iv (48 + q2), rv b189, rv sa_196, rv sa_211, rv sa_358, rv sa_364, rv b365, .unset] []))
        obtain ⟨T390, h390, X390, e390, E390, A390, D390, -, st390⟩ := newO X388 hx hZ hown (w199 hw) (w43 hw) (w24 hw) e388 (g := (mkF m 183 #[iv p0, iv p1, iv p2, iv 1, iv 1, iv q1, iv q2, iv (48 + q1), iv (48 + q2), rv b189, rv sa_196, rv sa_211, rv sa_358, rv sa_364, rv b365, .unset] [])) rfl (hb hby at_183) (by decide) (by decide)
        obtain ⟨b390, gq390⟩ : ∃ z, z = h388.size := ⟨_, rfl⟩
        rw [← gq390] at A390 D390 st390
        have f391 : Fld Z h390 b390 cST "coder" "B" (.int 0) := D390 (Or.inr (w74 hw)) (ty := .byte) (by decide)
        have f392 : Fld Z h390 b390 cST "value" "[B" .null := D390 (Or.inr (w94 hw)) (ty := (.array .byte)) (by decide)
        refine go_st (fun t k => st390 t k) ?_
        show Go _ _ _ _ (T390.setTop (mkF m 186 #[iv p0, iv p1, iv p2, iv 1, iv 1, iv q1, iv q2, iv (48 + q1), iv (48 + q2), rv b189, rv sa_196, rv sa_211, rv sa_358, rv sa_364, rv b365, .unset] [(.ref b390)]))
        refine go_st (fun t k => XS.dup X390.here hx rfl (hb hby at_186) rfl rfl k) ?_
        refine go_st (fun t k => XS.iconst X390.here hx rfl (hb hby at_187) k) ?_
        show Go _ _ _ _ (T390.setTop (mkF m 188 #[iv p0, iv p1, iv p2, iv 1, iv 1, iv q1, iv q2, iv (48 + q1), iv (48 + q2), rv b189, rv sa_196, rv sa_211, rv sa_358, rv sa_364, rv b365, .unset] [(.int 2), (.ref b390), (.ref b390)]))
        obtain ⟨T393, h393, kc393, X393, e393, E393, A393, st393⟩ := newP X390 hx hZ (aty := .char) (w200 hw) e390 (g := (mkF m 188 #[iv p0, iv p1, iv p2, iv 1, iv 1, iv q1, iv q2, iv (48 + q1), iv (48 + q2), rv b189, rv sa_196, rv sa_211, rv sa_358, rv sa_364, rv b365, .unset] [(.int 2), (.ref b390), (.ref b390)])) rfl (hb hby at_188) rfl (by decide) (cap := 2) (by decide) (by decide) (by decide) (by decide)
        obtain ⟨b393, gq393⟩ : ∃ z, z = h390.size := ⟨_, rfl⟩
        rw [← gq393] at A393 st393
        have f394 : Arv Z h393 b393 kc393 .char (2 : Int32) [(.int 0), (.int 0)] (.int 0) := (Arv.new A393 (by decide)).pad (pad_rep [] (.int 0) 2)
        refine go_st (fun t k => st393 t k) ?_
        refine go_st (fun t k => XS.dup X393.here hx rfl (hb hby at_190) rfl rfl k) ?_
        refine go_st (fun t k => XS.iconst X393.here hx rfl (hb hby at_191) k) ?_
        refine go_st (fun t k => XS.bipush X393.here hx rfl (hb hby at_192) k) ?_
        show Go _ _ _ _ (T393.setTop (mkF m 194 #[iv p0, iv p1, iv p2, iv 1, iv 1, iv q1, iv q2, iv (48 + q1), iv (48 + q2), rv b189, rv sa_196, rv sa_211, rv sa_358, rv sa_364, rv b365, .unset] [(.int 44), (.int 0), (.ref b393), (.ref b393), (.ref b390), (.ref b390)]))
        obtain ⟨zc395, zA395, zq395, zS395, zN395, zH395, zG395⟩ := id f394
        have hin395 : ¬ ((0 : Int32) < 0 ∨ zc395.slots.size ≤ ((0 : Int32)).toNatClampNeg) := inb_of zS395 ⟨by decide, by decide⟩
        obtain ⟨T395, h395, X395, e395, W395, st395⟩ := stC X393 hx hZ e393 zA395 (j := (0 : Int32)) hin395 (g := (mkF m 194 #[iv p0, iv p1, iv p2, iv 1, iv 1, iv q1, iv q2, iv (48 + q1), iv (48 + q2), rv b189, rv sa_196, rv sa_211, rv sa_358, rv sa_364, rv b365, .unset] [(.int 44), (.int 0), (.ref b393), (.ref b393), (.ref b390), (.ref b390)])) rfl rfl (hb hby at_194)
        have sz396 : h0.size ≤ h388.size := (Nat.le_trans sz387 K388.1)
        have sz397 : h0.size ≤ h390.size := (Nat.le_trans sz396 E390.1)
        have g_b393 : n0 ≤ b393 := Nat.le_trans (Nat.le_trans Z0 sz397) (Nat.le_of_eq gq393.symm)
        have N395 := Fr.snoc X395 N388 g_b393
        have f398 : Arv Z h395 b393 kc393 .char (2 : Int32) [(.int (nar .char (44 : Int32))), (.int 0)] (.int 0) := Arv.set zA395 zq395 zS395 zN395 zH395 zG395 (fits_nar_char _) W395 0 rfl (Nat.le_of_ble_eq_true rfl)
        refine go_st (fun t k => st395 t k) ?_
        refine go_st (fun t k => XS.dup X395.here hx rfl (hb hby at_195) rfl rfl k) ?_
        refine go_st (fun t k => XS.iconst X395.here hx rfl (hb hby at_196) k) ?_
        refine go_st (fun t k => XS.iload X395.here hx rfl (hb hby at_197) rfl k) ?_
        show Go _ _ _ _ (T395.setTop (mkF m 199 #[iv p0, iv p1, iv p2, iv 1, iv 1, iv q1, iv q2, iv (48 + q1), iv (48 + q2), rv b189, rv sa_196, rv sa_211, rv sa_358, rv sa_364, rv b365, .unset] [(.int (48 + q2)), (.int 1), (.ref b393), (.ref b393), (.ref b390), (.ref b390)]))
        obtain ⟨zc399, zA399, zq399, zS399, zN399, zH399, zG399⟩ := id f398
        have hin399 : ¬ ((1 : Int32) < 0 ∨ zc399.slots.size ≤ ((1 : Int32)).toNatClampNeg) := inb_of zS399 ⟨by decide, by decide⟩
        obtain ⟨T399, h399, X399, e399, W399, st399⟩ := stC X395 hx hZ e395 zA399 (j := (1 : Int32)) hin399 (g := (mkF m 199 #[iv p0, iv p1, iv p2, iv 1, iv 1, iv q1, iv q2, iv (48 + q1), iv (48 + q2), rv b189, rv sa_196, rv sa_211, rv sa_358, rv sa_364, rv b365, .unset] [(.int (48 + q2)), (.int 1), (.ref b393), (.ref b393), (.ref b390), (.ref b390)])) rfl rfl (hb hby at_199)
        have N399 := Fr.snoc X399 N395 g_b393
        have f400 : Arv Z h399 b393 kc393 .char (2 : Int32) [(.int (nar .char (44 : Int32))), (.int (nar .char (48 + q2)))] (.int 0) := Arv.set zA399 zq399 zS399 zN399 zH399 zG399 (fits_nar_char _) W399 1 rfl (Nat.le_of_ble_eq_true rfl)
        refine go_st (fun t k => st399 t k) ?_
        show Go _ _ _ _ (T399.setTop (mkF m 200 #[iv p0, iv p1, iv p2, iv 1, iv 1, iv q1, iv q2, iv (48 + q1), iv (48 + q2), rv b189, rv sa_196, rv sa_211, rv sa_358, rv sa_364, rv b365, .unset] [(.ref b393), (.ref b390), (.ref b390)]))
        have f401 : Exa Z h399 b390 cST := (((A390.ext E393).wr W395).wr W399)
        have nq402 : b390 ≠ b393 := Nat.ne_of_lt (Nat.lt_of_lt_of_le (Nat.lt_of_lt_of_le A390.lt (Nat.le_refl _)) (Nat.le_of_eq gq393.symm))
        have f403 : Fld Z h399 b390 cST "value" "[B" .null := (((f392.ext E393).other W395 (Or.inl nq402)).other W399 (Or.inl nq402))
        have f404 : Fld Z h399 b390 cST "coder" "B" (.int 0) := (((f391.ext E393).other W395 (Or.inl nq402)).other W399 (Or.inl nq402))
        have oe405 : Old Z n0 h388 := (Old.keep oe384 K388 (allS g_b365 all0))
        have oe406 : Old Z n0 h390 := (Old.ext oe405 E390)
        have oe407 : Old Z n0 h393 := (Old.ext oe406 E393)
        have oe408 : Old Z n0 h395 := (Old.wr oe407 W395 g_b393)
        have oe409 : Old Z n0 h399 := (Old.wr oe408 W399 g_b393)
        have g_b390 : n0 ≤ b390 := Nat.le_trans (Nat.le_trans Z0 sz396) (Nat.le_of_eq gq390.symm)
        have sz410 : h0.size ≤ h393.size := (Nat.le_trans sz397 E393.1)
        have sz411 : h0.size ≤ h395.size := (Nat.le_trans sz410 (Nat.le_of_eq W395.size.symm))
        have sz412 : h0.size ≤ h399.size := (Nat.le_trans sz411 (Nat.le_of_eq W399.size.symm))
        obtain ⟨_, _, ⟨T413, L413, kk413, nn413⟩, -, X413, ⟨Lc413, hQ413, lq413, yq413, zq413⟩, st413⟩ := X399.specialBack hx (y := mn37) rfl hown (mvT hZ (w201 hw)) (mvT hZ (w202 hw)) (mvT hZ (w203 hw)) (by decide) (StrChars.Road.backV (W := 1) hZ (words_in str_words hw) (kI := 4) (w43 hw) (cs := ([(nar .char (44 : Int32)), (nar .char (48 + q2))] : List Int32)) (bs := ([(nar .char (44 : Int32)), (nar .char (48 + q2))] : List Int32).map (fun c => c.toInt8.toInt32)) (n := 2) g_b390 (Nat.le_trans Z0 sz412) f401 f403 f404 f400 (Sta.ext oe409.2 CS) CSn rfl rfl (by decide) (by decide) (chars_cons (c := (nar .char (44 : Int32))) (by decide) (chars_cons (c := (nar .char (48 + q2))) (dg_all (P := fun q2 => ¬ (nar .char (48 + q2)) < 0 ∧ ¬ (255 : Int32) < (nar .char (48 + q2))) hq2 (by decide +kernel)) chars_nil)) rfl (by decide) (by decide)) (g := (mkF m 200 #[iv p0, iv p1, iv p2, iv 1, iv 1, iv q1, iv q2, iv (48 + q1), iv (48 + q2), rv b189, rv sa_196, rv sa_211, rv sa_358, rv sa_364, rv b365, .unset] [(.ref b393), (.ref b390), (.ref b390)])) rfl (by rw [hml]; rfl) (Steps.refl _) (a := b390) (argsL := [(.ref b393)]) (rest := [(.ref b390)]) (lenOf pd_26 rfl) rfl (by show 2 * 0 + _ ≤ _; exact Nat.le_of_eq rfl) (hb hby at_200) (fun _ _ => ⟨rfl, e399, (by decide : 16 + 1 ≤ _), (by decide : 56 + 2 ≤ _)⟩)
        dsimp only [Pt.U, Pt.locs, Pt.cells, Pt.slots] at X413 lq413 yq413 zq413 st413 hQ413
        subst lq413 yq413 zq413
        obtain ⟨h413, e413⟩ : ∃ z, T413.heap = z := ⟨_, rfl⟩
        rw [e413] at hQ413
        obtain ⟨rfl, N413q, K413, Es413, Cs413, t413, kb413, gt413, lt413, nt413, Vs413, As413⟩ := hQ413
        have N413 := Fr.app N399 N413q
        refine go_tr st413 ?_
        have f414 : Arv Z h413 t413 kb413 .byte (2 : Int32) [(.int ((nar .char (44 : Int32)).toInt8.toInt32)), (.int ((nar .char (48 + q2)).toInt8.toInt32))] (.int 0) := As413
        refine go_st (fun t k => XS.astore X413.here hx rfl (hb hby at_203) rfl rfl (l' := #[iv p0, iv p1, iv p2, iv 1, iv 1, iv q1, iv q2, iv (48 + q1), iv (48 + q2), rv b189, rv sa_196, rv sa_211, rv sa_358, rv sa_364, rv b365, rv b390]) rfl k) ?_
        refine go_st (fun t k => XS.goto X413.here hx rfl (pc0 := 205) (pc' := 225) rfl (hb hby at_205) (by decide) (by decide) k) ?_
        show Go _ _ _ _ (T413.setTop (mkF m 225 #[iv p0, iv p1, iv p2, iv 1, iv 1, iv q1, iv q2, iv (48 + q1), iv (48 + q2), rv b189, rv sa_196, rv sa_211, rv sa_358, rv sa_364, rv b365, rv b390] []))
        refine go_st (fun t k => XS.aload X413.here hx rfl (hb hby at_225) rfl rfl k) ?_
        show Go _ _ _ _ (T413.setTop (mkF m 227 #[iv p0, iv p1, iv p2, iv 1, iv 1, iv q1, iv q2, iv (48 + q1), iv (48 + q2), rv b189, rv sa_196, rv sa_211, rv sa_358, rv sa_364, rv b365, rv b390] [(.ref sa_196)]))
        have f415 : Exa Z h413 sa_196 cST := ((((((((((((((((p196_2.keep K205).keep K208).keep K211).keep K355).keep K358).keep K364).ext E365).ext E368).wr W370).wr W374).keep K388).ext E390).ext E393).wr W395).wr W399).keep K413)
        have nq416 : b189 ≠ sa_196 := Nat.ne_of_lt (Nat.lt_of_lt_of_le (Nat.lt_of_lt_of_le A189.lt K193.1) lf196_0)
        have nq417 : va_193 ≠ sa_196 := Nat.ne_of_lt (Nat.lt_of_lt_of_le (Nat.lt_of_lt_of_le p193_10.lt (Nat.le_refl _)) lf196_0)
        have nq418 : sb_193 ≠ sa_196 := Nat.ne_of_lt (Nat.lt_of_lt_of_le (Nat.lt_of_lt_of_le p193_5.lt (Nat.le_refl _)) lf196_0)
        have sz419 : h196.size ≤ h208.size := (Nat.le_trans K205.1 K208.1)
        have sz420 : h196.size ≤ h211.size := (Nat.le_trans sz419 K211.1)
        have sz421 : h196.size ≤ h355.size := (Nat.le_trans sz420 K355.1)
        have sz422 : h196.size ≤ h358.size := (Nat.le_trans sz421 K358.1)
        have sz423 : h196.size ≤ h364.size := (Nat.le_trans sz422 K364.1)
        have sz424 : h196.size ≤ h365.size := (Nat.le_trans sz423 E365.1)
        have nq425 : sa_196 ≠ b368 := Nat.ne_of_lt (Nat.lt_of_lt_of_le (Nat.lt_of_lt_of_le p196_2.lt sz424) (Nat.le_of_eq gq368.symm))
        have nq426 : sa_196 ≠ b365 := Nat.ne_of_lt (Nat.lt_of_lt_of_le (Nat.lt_of_lt_of_le p196_2.lt sz423) (Nat.le_of_eq gq365.symm))
        have sz427 : h196.size ≤ h368.size := (Nat.le_trans sz424 E368.1)
        have sz428 : h196.size ≤ h370.size := (Nat.le_trans sz427 (Nat.le_of_eq W370.size.symm))
        have sz429 : h196.size ≤ h374.size := (Nat.le_trans sz428 (Nat.le_of_eq W374.size.symm))
        have sz430 : h196.size ≤ h388.size := (Nat.le_trans sz429 K388.1)
        have sz431 : h196.size ≤ h390.size := (Nat.le_trans sz430 E390.1)
        have nq432 : sa_196 ≠ b393 := Nat.ne_of_lt (Nat.lt_of_lt_of_le (Nat.lt_of_lt_of_le p196_2.lt sz431) (Nat.le_of_eq gq393.symm))
        have nq433 : sa_196 ≠ b390 := Nat.ne_of_lt (Nat.lt_of_lt_of_le (Nat.lt_of_lt_of_le p196_2.lt sz430) (Nat.le_of_eq gq390.symm))
        have f434 : Fld Z h413 sa_196 cST "value" "[B" (.ref ta_196) := ((((((((((((((((p196_3.keep K205 (ninS (Ne.symm nq418) (ninS (Ne.symm nq417) (ninS (Ne.symm nq416) nin0)))).keep K208 (ninS (Ne.symm nq418) (ninS (Ne.symm nq417) (ninS (Ne.symm nq416) nin0)))).keep K211 (ninS (Ne.symm nq418) nin0)).keep K355 (ninS (Ne.symm nq418) (ninS (Ne.symm nq417) (ninS (Ne.symm nq416) nin0)))).keep K358 (ninS (Ne.symm nq418) nin0)).keep K364 (ninS (Ne.symm nq418) nin0)).ext E365).ext E368).other W370 (Or.inl nq425)).other W374 (Or.inl nq425)).keep K388 (ninS nq426 nin0)).ext E390).ext E393).other W395 (Or.inl nq432)).other W399 (Or.inl nq432)).keep K413 (ninS nq433 nin0))
        have f435 : Fld Z h413 sa_196 cST "coder" "B" (.int 0) := ((((((((((((((((p196_4.keep K205 (ninS (Ne.symm nq418) (ninS (Ne.symm nq417) (ninS (Ne.symm nq416) nin0)))).keep K208 (ninS (Ne.symm nq418) (ninS (Ne.symm nq417) (ninS (Ne.symm nq416) nin0)))).keep K211 (ninS (Ne.symm nq418) nin0)).keep K355 (ninS (Ne.symm nq418) (ninS (Ne.symm nq417) (ninS (Ne.symm nq416) nin0)))).keep K358 (ninS (Ne.symm nq418) nin0)).keep K364 (ninS (Ne.symm nq418) nin0)).ext E365).ext E368).other W370 (Or.inl nq425)).other W374 (Or.inl nq425)).keep K388 (ninS nq426 nin0)).ext E390).ext E393).other W395 (Or.inl nq432)).other W399 (Or.inl nq432)).keep K413 (ninS nq433 nin0))
        have nq436 : b189 ≠ ta_196 := Nat.ne_of_lt (Nat.lt_of_lt_of_le (Nat.lt_of_lt_of_le A189.lt K193.1) lf196_1)
        have nq437 : va_193 ≠ ta_196 := Nat.ne_of_lt (Nat.lt_of_lt_of_le (Nat.lt_of_lt_of_le p193_10.lt (Nat.le_refl _)) lf196_1)
        have nq438 : sb_193 ≠ ta_196 := Nat.ne_of_lt (Nat.lt_of_lt_of_le (Nat.lt_of_lt_of_le p193_5.lt (Nat.le_refl _)) lf196_1)
        have nq439 : ta_196 ≠ b368 := Nat.ne_of_lt (Nat.lt_of_lt_of_le (Nat.lt_of_lt_of_le p196_5.lt sz424) (Nat.le_of_eq gq368.symm))
        have nq440 : ta_196 ≠ b365 := Nat.ne_of_lt (Nat.lt_of_lt_of_le (Nat.lt_of_lt_of_le p196_5.lt sz423) (Nat.le_of_eq gq365.symm))
        have nq441 : ta_196 ≠ b393 := Nat.ne_of_lt (Nat.lt_of_lt_of_le (Nat.lt_of_lt_of_le p196_5.lt sz431) (Nat.le_of_eq gq393.symm))
        have nq442 : ta_196 ≠ b390 := Nat.ne_of_lt (Nat.lt_of_lt_of_le (Nat.lt_of_lt_of_le p196_5.lt sz430) (Nat.le_of_eq gq390.symm))
        have f443 : Arv Z h413 ta_196 kt_196 .byte (0 : Int32) [] (.int (0 : Int32)) := ((((((((((((((((p196_5.keep K205 (ninS (Ne.symm nq438) (ninS (Ne.symm nq437) (ninS (Ne.symm nq436) nin0)))).keep K208 (ninS (Ne.symm nq438) (ninS (Ne.symm nq437) (ninS (Ne.symm nq436) nin0)))).keep K211 (ninS (Ne.symm nq438) nin0)).keep K355 (ninS (Ne.symm nq438) (ninS (Ne.symm nq437) (ninS (Ne.symm nq436) nin0)))).keep K358 (ninS (Ne.symm nq438) nin0)).keep K364 (ninS (Ne.symm nq438) nin0)).ext E365).ext E368).other W370 nq439).other W374 nq439).keep K388 (ninS nq440 nin0)).ext E390).ext E393).other W395 nq441).other W399 nq441).keep K413 (ninS nq442 nin0))
        have oe444 : Old Z n0 h413 := (Old.keep oe409 K413 (allS g_b390 all0))
        have sz445 : h0.size ≤ h413.size := (Nat.le_trans sz412 K413.1)
        obtain ⟨cq446, kq446, q446a, q446b, q446c⟩ := isOf hZ e413 f415
        obtain ⟨_, _, ⟨T446, L446, kk446, nn446⟩, -, X446, ⟨Lc446, hQ446, lq446, yq446, zq446⟩, st446⟩ := X413.virtualBack hx (y := mn29) (z := mn29) hown (mvT hZ (w161 hw)) (mvT hZ (w162 hw)) (notFace_of_selects (args := #[]) (mvT hZ (w164 hw))) (mvT hZ (w164 hw)) (mvT hZ (w163 hw)) (by decide) (backOf (W := 0) (rm_sisEmpty0 l Z a0 hw [] sa_196 ta_196 kt_196 G1 h413 n0 (Nat.le_trans Z0 sz445) f415 f434 f435 f443 CS CSn oe444) hZ (w165 hw) (w24 hw) (by decide) (by decide)) q446a q446c (g := (mkF m 227 #[iv p0, iv p1, iv p2, iv 1, iv 1, iv q1, iv q2, iv (48 + q1), iv (48 + q2), rv b189, rv sa_196, rv sa_211, rv sa_358, rv sa_364, rv b365, rv b390] [(.ref sa_196)])) rfl (by rw [hml]; rfl) (Steps.refl _) (argsL := []) (rest := []) (lenOf pd_4 rfl) rfl (by show 2 * 0 + _ ≤ _; exact Nat.le_of_eq rfl) (hb hby at_227) (fun _ _ => ⟨rfl, e413, (by decide : 17 + 0 ≤ _), (by decide : 58 + 0 ≤ _)⟩)
        dsimp only [Pt.U, Pt.locs, Pt.cells, Pt.slots] at X446 lq446 yq446 zq446 st446 hQ446
        subst lq446 yq446 zq446
        obtain ⟨h446, e446⟩ : ∃ z, T446.heap = z := ⟨_, rfl⟩
        rw [e446] at hQ446
        obtain ⟨rfl, N446q, he446⟩ := hQ446
        have N446 := Fr.app N413 N446q
        rw [he446] at e446
        refine go_tr st446 ?_
        show Go _ _ _ _ (T446.setTop (mkF m 230 #[iv p0, iv p1, iv p2, iv 1, iv 1, iv q1, iv q2, iv (48 + q1), iv (48 + q2), rv b189, rv sa_196, rv sa_211, rv sa_358, rv sa_364, rv b365, rv b390] [(.int 1)]))
        refine go_st (fun t k => XS.ifNo X446.here hx rfl (hb hby at_230) rfl ((if0 _ _).trans (feq ((by decide) : ¬ ((1 : Int32) = (0 : Int32)))).1) k) ?_
        show Go _ _ _ _ (T446.setTop (mkF m 233 #[iv p0, iv p1, iv p2, iv 1, iv 1, iv q1, iv q2, iv (48 + q1), iv (48 + q2), rv b189, rv sa_196, rv sa_211, rv sa_358, rv sa_364, rv b365, rv b390] []))
        refine go_st (fun t k => XS.aload X446.here hx rfl (hb hby at_233) rfl rfl k) ?_
        refine go_st (fun t k => XS.aload X446.here hx rfl (hb hby at_235) rfl rfl k) ?_
        show Go _ _ _ _ (T446.setTop (mkF m 237 #[iv p0, iv p1, iv p2, iv 1, iv 1, iv q1, iv q2, iv (48 + q1), iv (48 + q2), rv b189, rv sa_196, rv sa_211, rv sa_358, rv sa_364, rv b365, rv b390] [(.ref b365), (.ref sa_211)]))
        have f447 : Exa Z h413 sa_211 cST := (((((((((((((p211_2.keep K355).keep K358).keep K364).ext E365).ext E368).wr W370).wr W374).keep K388).ext E390).ext E393).wr W395).wr W399).keep K413)
        have sz448 : h189.size ≤ h196.size := (Nat.le_trans K193.1 K196.1)
        have sz449 : h189.size ≤ h205.size := (Nat.le_trans sz448 K205.1)
        have sz450 : h189.size ≤ h208.size := (Nat.le_trans sz449 K208.1)
        have nq451 : b189 ≠ sa_211 := Nat.ne_of_lt (Nat.lt_of_lt_of_le (Nat.lt_of_lt_of_le A189.lt sz450) lf211_0)
        have sz452 : h193.size ≤ h205.size := (Nat.le_trans K196.1 K205.1)
        have sz453 : h193.size ≤ h208.size := (Nat.le_trans sz452 K208.1)
        have nq454 : va_193 ≠ sa_211 := Nat.ne_of_lt (Nat.lt_of_lt_of_le (Nat.lt_of_lt_of_le p193_10.lt sz453) lf211_0)
        have nq455 : sb_193 ≠ sa_211 := Nat.ne_of_lt (Nat.lt_of_lt_of_le (Nat.lt_of_lt_of_le p193_5.lt sz453) lf211_0)
        have sz456 : h211.size ≤ h358.size := (Nat.le_trans K355.1 K358.1)
        have sz457 : h211.size ≤ h364.size := (Nat.le_trans sz456 K364.1)
        have sz458 : h211.size ≤ h365.size := (Nat.le_trans sz457 E365.1)
        have nq459 : sa_211 ≠ b368 := Nat.ne_of_lt (Nat.lt_of_lt_of_le (Nat.lt_of_lt_of_le p211_2.lt sz458) (Nat.le_of_eq gq368.symm))
        have nq460 : sa_211 ≠ b365 := Nat.ne_of_lt (Nat.lt_of_lt_of_le (Nat.lt_of_lt_of_le p211_2.lt sz457) (Nat.le_of_eq gq365.symm))
        have sz461 : h211.size ≤ h368.size := (Nat.le_trans sz458 E368.1)
        have sz462 : h211.size ≤ h370.size := (Nat.le_trans sz461 (Nat.le_of_eq W370.size.symm))
        have sz463 : h211.size ≤ h374.size := (Nat.le_trans sz462 (Nat.le_of_eq W374.size.symm))
        have sz464 : h211.size ≤ h388.size := (Nat.le_trans sz463 K388.1)
        have sz465 : h211.size ≤ h390.size := (Nat.le_trans sz464 E390.1)
        have nq466 : sa_211 ≠ b393 := Nat.ne_of_lt (Nat.lt_of_lt_of_le (Nat.lt_of_lt_of_le p211_2.lt sz465) (Nat.le_of_eq gq393.symm))
        have nq467 : sa_211 ≠ b390 := Nat.ne_of_lt (Nat.lt_of_lt_of_le (Nat.lt_of_lt_of_le p211_2.lt sz464) (Nat.le_of_eq gq390.symm))
        have f468 : Fld Z h413 sa_211 cST "value" "[B" (.ref ta_211) := (((((((((((((p211_3.keep K355 (ninS (Ne.symm nq455) (ninS (Ne.symm nq454) (ninS (Ne.symm nq451) nin0)))).keep K358 (ninS (Ne.symm nq455) nin0)).keep K364 (ninS (Ne.symm nq455) nin0)).ext E365).ext E368).other W370 (Or.inl nq459)).other W374 (Or.inl nq459)).keep K388 (ninS nq460 nin0)).ext E390).ext E393).other W395 (Or.inl nq466)).other W399 (Or.inl nq466)).keep K413 (ninS nq467 nin0))
        have f469 : Fld Z h413 sa_211 cST "coder" "B" (.int 0) := (((((((((((((p211_4.keep K355 (ninS (Ne.symm nq455) (ninS (Ne.symm nq454) (ninS (Ne.symm nq451) nin0)))).keep K358 (ninS (Ne.symm nq455) nin0)).keep K364 (ninS (Ne.symm nq455) nin0)).ext E365).ext E368).other W370 (Or.inl nq459)).other W374 (Or.inl nq459)).keep K388 (ninS nq460 nin0)).ext E390).ext E393).other W395 (Or.inl nq466)).other W399 (Or.inl nq466)).keep K413 (ninS nq467 nin0))
        have nq470 : b189 ≠ ta_211 := Nat.ne_of_lt (Nat.lt_of_lt_of_le (Nat.lt_of_lt_of_le A189.lt sz450) lf211_1)
        have nq471 : va_193 ≠ ta_211 := Nat.ne_of_lt (Nat.lt_of_lt_of_le (Nat.lt_of_lt_of_le p193_10.lt sz453) lf211_1)
        have nq472 : sb_193 ≠ ta_211 := Nat.ne_of_lt (Nat.lt_of_lt_of_le (Nat.lt_of_lt_of_le p193_5.lt sz453) lf211_1)
        have nq473 : ta_211 ≠ b368 := Nat.ne_of_lt (Nat.lt_of_lt_of_le (Nat.lt_of_lt_of_le p211_5.lt sz458) (Nat.le_of_eq gq368.symm))
        have nq474 : ta_211 ≠ b365 := Nat.ne_of_lt (Nat.lt_of_lt_of_le (Nat.lt_of_lt_of_le p211_5.lt sz457) (Nat.le_of_eq gq365.symm))
        have nq475 : ta_211 ≠ b393 := Nat.ne_of_lt (Nat.lt_of_lt_of_le (Nat.lt_of_lt_of_le p211_5.lt sz465) (Nat.le_of_eq gq393.symm))
        have nq476 : ta_211 ≠ b390 := Nat.ne_of_lt (Nat.lt_of_lt_of_le (Nat.lt_of_lt_of_le p211_5.lt sz464) (Nat.le_of_eq gq390.symm))
        have f477 : Arv Z h413 ta_211 kt_211 .byte (2 : Int32) [(.int (nar .byte ((91 : Int32).toInt8.toInt32))), (.int (48 + q1))] (.int (0 : Int32)) := (((((((((((((p211_5.keep K355 (ninS (Ne.symm nq472) (ninS (Ne.symm nq471) (ninS (Ne.symm nq470) nin0)))).keep K358 (ninS (Ne.symm nq472) nin0)).keep K364 (ninS (Ne.symm nq472) nin0)).ext E365).ext E368).other W370 nq473).other W374 nq473).keep K388 (ninS nq474 nin0)).ext E390).ext E393).other W395 nq475).other W399 nq475).keep K413 (ninS nq476 nin0))
        have f478 : Exa Z h413 b365 cST := (((((Es388.ext E390).ext E393).wr W395).wr W399).keep K413)
        have sz479 : h365.size ≤ h370.size := (Nat.le_trans E368.1 (Nat.le_of_eq W370.size.symm))
        have sz480 : h365.size ≤ h374.size := (Nat.le_trans sz479 (Nat.le_of_eq W374.size.symm))
        have sz481 : h365.size ≤ h388.size := (Nat.le_trans sz480 K388.1)
        have sz482 : h365.size ≤ h390.size := (Nat.le_trans sz481 E390.1)
        have nq483 : b365 ≠ b393 := Nat.ne_of_lt (Nat.lt_of_lt_of_le (Nat.lt_of_lt_of_le A365.lt sz482) (Nat.le_of_eq gq393.symm))
        have nq484 : b365 ≠ b390 := Nat.ne_of_lt (Nat.lt_of_lt_of_le (Nat.lt_of_lt_of_le A365.lt sz481) (Nat.le_of_eq gq390.symm))
        have f485 : Fld Z h413 b365 cST "value" "[B" (.ref t388) := (((((Vs388.ext E390).ext E393).other W395 (Or.inl nq483)).other W399 (Or.inl nq483)).keep K413 (ninS nq484 nin0))
        have f486 : Fld Z h413 b365 cST "coder" "B" (.int 0) := (((((Cs388.ext E390).ext E393).other W395 (Or.inl nq483)).other W399 (Or.inl nq483)).keep K413 (ninS nq484 nin0))
        have nq487 : t388 ≠ b393 := Nat.ne_of_lt (Nat.lt_of_lt_of_le (Nat.lt_of_lt_of_le As388.lt E390.1) (Nat.le_of_eq gq393.symm))
        have nq488 : t388 ≠ b390 := Nat.ne_of_lt (Nat.lt_of_lt_of_le (Nat.lt_of_lt_of_le As388.lt (Nat.le_refl _)) (Nat.le_of_eq gq390.symm))
        have f489 : Arv Z h413 t388 kb388 .byte (2 : Int32) [(.int ((nar .char (91 : Int32)).toInt8.toInt32)), (.int ((nar .char (48 + q1)).toInt8.toInt32))] (.int 0) := (((((f389.ext E390).ext E393).other W395 nq487).other W399 nq487).keep K413 (ninS nq488 nin0))
        obtain ⟨cq490, kq490, q490a, q490b, q490c⟩ := isOf hZ e446 f447
        obtain ⟨_, _, ⟨T490, L490, kk490, nn490⟩, -, X490, ⟨Lc490, hQ490, lq490, yq490, zq490⟩, st490⟩ := X446.virtualBack hx (y := mn30) (z := mn30) hown (mvT hZ (w166 hw)) (mvT hZ (w167 hw)) (nf_same (y := mn30) (y' := mn29) (a0 := #[]) rfl (mvT hZ (w163 hw)) (notFace_of_selects (args := #[]) (mvT hZ (w164 hw)))) (mvT hZ (w169 hw)) (mvT hZ (w168 hw)) (by decide) (backOf (W := 0) (rm_seq2 l Z a0 hw [] sa_211 ta_211 kt_211 (nar .byte ((91 : Int32).toInt8.toInt32)) (48 + q1) b365 t388 kb388 ((nar .char (91 : Int32)).toInt8.toInt32) ((nar .char (48 + q1)).toInt8.toInt32) G1 h413 n0 (Nat.le_trans Z0 sz445) f447 f468 f469 f477 f478 f485 f486 f489 nq460 (by decide) (dg_all (P := fun q1 => (48 + q1) = ((nar .char (48 + q1)).toInt8.toInt32)) hq1 (by decide +kernel)) CS CSn oe444) hZ (w170 hw) (w24 hw) (by decide) (by decide)) q490a q490c (g := (mkF m 237 #[iv p0, iv p1, iv p2, iv 1, iv 1, iv q1, iv q2, iv (48 + q1), iv (48 + q2), rv b189, rv sa_196, rv sa_211, rv sa_358, rv sa_364, rv b365, rv b390] [(.ref b365), (.ref sa_211)])) rfl (by rw [hml]; rfl) (Steps.refl _) (argsL := [(.ref b365)]) (rest := []) (lenOf pd_20 rfl) rfl (by show 2 * 0 + _ ≤ _; exact Nat.le_of_eq rfl) (hb hby at_237) (fun _ _ => ⟨rfl, e446, (by decide : 17 + 0 ≤ _), (by decide : 58 + 0 ≤ _)⟩)
        dsimp only [Pt.U, Pt.locs, Pt.cells, Pt.slots] at X490 lq490 yq490 zq490 st490 hQ490
        subst lq490 yq490 zq490
        obtain ⟨h490, e490⟩ : ∃ z, T490.heap = z := ⟨_, rfl⟩
        rw [e490] at hQ490
        obtain ⟨rfl, N490q, he490⟩ := hQ490
        have N490 := Fr.app N446 N490q
        rw [he490] at e490
        refine go_tr st490 ?_
        show Go _ _ _ _ (T490.setTop (mkF m 240 #[iv p0, iv p1, iv p2, iv 1, iv 1, iv q1, iv q2, iv (48 + q1), iv (48 + q2), rv b189, rv sa_196, rv sa_211, rv sa_358, rv sa_364, rv b365, rv b390] [(.int 1)]))
        refine go_st (fun t k => XS.ifNo X490.here hx rfl (hb hby at_240) rfl ((if0 _ _).trans (feq ((by decide) : ¬ ((1 : Int32) = (0 : Int32)))).1) k) ?_
        show Go _ _ _ _ (T490.setTop (mkF m 243 #[iv p0, iv p1, iv p2, iv 1, iv 1, iv q1, iv q2, iv (48 + q1), iv (48 + q2), rv b189, rv sa_196, rv sa_211, rv sa_358, rv sa_364, rv b365, rv b390] []))
        refine go_st (fun t k => XS.aload X490.here hx rfl (hb hby at_243) rfl rfl k) ?_
        refine go_st (fun t k => XS.aload X490.here hx rfl (hb hby at_245) rfl rfl k) ?_
        show Go _ _ _ _ (T490.setTop (mkF m 247 #[iv p0, iv p1, iv p2, iv 1, iv 1, iv q1, iv q2, iv (48 + q1), iv (48 + q2), rv b189, rv sa_196, rv sa_211, rv sa_358, rv sa_364, rv b365, rv b390] [(.ref b390), (.ref sa_358)]))
        have f491 : Exa Z h413 sa_358 cST := (((((((((((p358_2.keep K364).ext E365).ext E368).wr W370).wr W374).keep K388).ext E390).ext E393).wr W395).wr W399).keep K413)
        have sz492 : h193.size ≤ h211.size := (Nat.le_trans sz453 K211.1)
        have sz493 : h193.size ≤ h355.size := (Nat.le_trans sz492 K355.1)
        have nq494 : sb_193 ≠ sa_358 := Nat.ne_of_lt (Nat.lt_of_lt_of_le (Nat.lt_of_lt_of_le p193_5.lt sz493) lf358_0)
        have sz495 : h358.size ≤ h365.size := (Nat.le_trans K364.1 E365.1)
        have nq496 : sa_358 ≠ b368 := Nat.ne_of_lt (Nat.lt_of_lt_of_le (Nat.lt_of_lt_of_le p358_2.lt sz495) (Nat.le_of_eq gq368.symm))
        have nq497 : sa_358 ≠ b365 := Nat.ne_of_lt (Nat.lt_of_lt_of_le (Nat.lt_of_lt_of_le p358_2.lt K364.1) (Nat.le_of_eq gq365.symm))
        have sz498 : h358.size ≤ h368.size := (Nat.le_trans sz495 E368.1)
        have sz499 : h358.size ≤ h370.size := (Nat.le_trans sz498 (Nat.le_of_eq W370.size.symm))
        have sz500 : h358.size ≤ h374.size := (Nat.le_trans sz499 (Nat.le_of_eq W374.size.symm))
        have sz501 : h358.size ≤ h388.size := (Nat.le_trans sz500 K388.1)
        have sz502 : h358.size ≤ h390.size := (Nat.le_trans sz501 E390.1)
        have nq503 : sa_358 ≠ b393 := Nat.ne_of_lt (Nat.lt_of_lt_of_le (Nat.lt_of_lt_of_le p358_2.lt sz502) (Nat.le_of_eq gq393.symm))
        have nq504 : sa_358 ≠ b390 := Nat.ne_of_lt (Nat.lt_of_lt_of_le (Nat.lt_of_lt_of_le p358_2.lt sz501) (Nat.le_of_eq gq390.symm))
        have f505 : Fld Z h413 sa_358 cST "value" "[B" (.ref ta_358) := (((((((((((p358_3.keep K364 (ninS (Ne.symm nq494) nin0)).ext E365).ext E368).other W370 (Or.inl nq496)).other W374 (Or.inl nq496)).keep K388 (ninS nq497 nin0)).ext E390).ext E393).other W395 (Or.inl nq503)).other W399 (Or.inl nq503)).keep K413 (ninS nq504 nin0))
        have f506 : Fld Z h413 sa_358 cST "coder" "B" (.int 0) := (((((((((((p358_4.keep K364 (ninS (Ne.symm nq494) nin0)).ext E365).ext E368).other W370 (Or.inl nq496)).other W374 (Or.inl nq496)).keep K388 (ninS nq497 nin0)).ext E390).ext E393).other W395 (Or.inl nq503)).other W399 (Or.inl nq503)).keep K413 (ninS nq504 nin0))
        have nq507 : sb_193 ≠ ta_358 := Nat.ne_of_lt (Nat.lt_of_lt_of_le (Nat.lt_of_lt_of_le p193_5.lt sz493) lf358_1)
        have nq508 : ta_358 ≠ b368 := Nat.ne_of_lt (Nat.lt_of_lt_of_le (Nat.lt_of_lt_of_le p358_5.lt sz495) (Nat.le_of_eq gq368.symm))
        have nq509 : ta_358 ≠ b365 := Nat.ne_of_lt (Nat.lt_of_lt_of_le (Nat.lt_of_lt_of_le p358_5.lt K364.1) (Nat.le_of_eq gq365.symm))
        have nq510 : ta_358 ≠ b393 := Nat.ne_of_lt (Nat.lt_of_lt_of_le (Nat.lt_of_lt_of_le p358_5.lt sz502) (Nat.le_of_eq gq393.symm))
        have nq511 : ta_358 ≠ b390 := Nat.ne_of_lt (Nat.lt_of_lt_of_le (Nat.lt_of_lt_of_le p358_5.lt sz501) (Nat.le_of_eq gq390.symm))
        have f512 : Arv Z h413 ta_358 kt_358 .byte (2 : Int32) [(.int (nar .byte ((44 : Int32).toInt8.toInt32))), (.int (48 + q2))] (.int (0 : Int32)) := (((((((((((p358_5.keep K364 (ninS (Ne.symm nq507) nin0)).ext E365).ext E368).other W370 nq508).other W374 nq508).keep K388 (ninS nq509 nin0)).ext E390).ext E393).other W395 nq510).other W399 nq510).keep K413 (ninS nq511 nin0))
        obtain ⟨cq513, kq513, q513a, q513b, q513c⟩ := isOf hZ e490 f491
        obtain ⟨_, _, ⟨T513, L513, kk513, nn513⟩, -, X513, ⟨Lc513, hQ513, lq513, yq513, zq513⟩, st513⟩ := X490.virtualBack hx (y := mn30) (z := mn30) hown (mvT hZ (w166 hw)) (mvT hZ (w167 hw)) (nf_same (y := mn30) (y' := mn29) (a0 := #[]) rfl (mvT hZ (w163 hw)) (notFace_of_selects (args := #[]) (mvT hZ (w164 hw)))) (mvT hZ (w169 hw)) (mvT hZ (w168 hw)) (by decide) (backOf (W := 0) (rm_seq2 l Z a0 hw [] sa_358 ta_358 kt_358 (nar .byte ((44 : Int32).toInt8.toInt32)) (48 + q2) b390 t413 kb413 ((nar .char (44 : Int32)).toInt8.toInt32) ((nar .char (48 + q2)).toInt8.toInt32) G1 h413 n0 (Nat.le_trans Z0 sz445) f491 f505 f506 f512 Es413 Vs413 Cs413 f414 nq504 (by decide) (dg_all (P := fun q2 => (48 + q2) = ((nar .char (48 + q2)).toInt8.toInt32)) hq2 (by decide +kernel)) CS CSn oe444) hZ (w170 hw) (w24 hw) (by decide) (by decide)) q513a q513c (g := (mkF m 247 #[iv p0, iv p1, iv p2, iv 1, iv 1, iv q1, iv q2, iv (48 + q1), iv (48 + q2), rv b189, rv sa_196, rv sa_211, rv sa_358, rv sa_364, rv b365, rv b390] [(.ref b390), (.ref sa_358)])) rfl (by rw [hml]; rfl) (Steps.refl _) (argsL := [(.ref b390)]) (rest := []) (lenOf pd_20 rfl) rfl (by show 2 * 0 + _ ≤ _; exact Nat.le_of_eq rfl) (hb hby at_247) (fun _ _ => ⟨rfl, e490, (by decide : 17 + 0 ≤ _), (by decide : 58 + 0 ≤ _)⟩)
        dsimp only [Pt.U, Pt.locs, Pt.cells, Pt.slots] at X513 lq513 yq513 zq513 st513 hQ513
        subst lq513 yq513 zq513
        obtain ⟨h513, e513⟩ : ∃ z, T513.heap = z := ⟨_, rfl⟩
        rw [e513] at hQ513
        obtain ⟨rfl, N513q, he513⟩ := hQ513
        have N513 := Fr.app N490 N513q
        rw [he513] at e513
        refine go_tr st513 ?_
        show Go _ _ _ _ (T513.setTop (mkF m 250 #[iv p0, iv p1, iv p2, iv 1, iv 1, iv q1, iv q2, iv (48 + q1), iv (48 + q2), rv b189, rv sa_196, rv sa_211, rv sa_358, rv sa_364, rv b365, rv b390] [(.int 1)]))
        refine go_st (fun t k => XS.ifNo X513.here hx rfl (hb hby at_250) rfl ((if0 _ _).trans (feq ((by decide) : ¬ ((1 : Int32) = (0 : Int32)))).1) k) ?_
        show Go _ _ _ _ (T513.setTop (mkF m 253 #[iv p0, iv p1, iv p2, iv 1, iv 1, iv q1, iv q2, iv (48 + q1), iv (48 + q2), rv b189, rv sa_196, rv sa_211, rv sa_358, rv sa_364, rv b365, rv b390] []))
        refine go_st (fun t k => XS.aload X513.here hx rfl (hb hby at_253) rfl rfl k) ?_
        show Go _ _ _ _ (T513.setTop (mkF m 255 #[iv p0, iv p1, iv p2, iv 1, iv 1, iv q1, iv q2, iv (48 + q1), iv (48 + q2), rv b189, rv sa_196, rv sa_211, rv sa_358, rv sa_364, rv b365, rv b390] [(.ref sa_364)]))
        have f514 : Exa Z h413 sa_364 cST := ((((((((((p364_2.ext E365).ext E368).wr W370).wr W374).keep K388).ext E390).ext E393).wr W395).wr W399).keep K413)
        have nq515 : sa_364 ≠ b368 := Nat.ne_of_lt (Nat.lt_of_lt_of_le (Nat.lt_of_lt_of_le p364_2.lt E365.1) (Nat.le_of_eq gq368.symm))
        have nq516 : sa_364 ≠ b365 := Nat.ne_of_lt (Nat.lt_of_lt_of_le (Nat.lt_of_lt_of_le p364_2.lt (Nat.le_refl _)) (Nat.le_of_eq gq365.symm))
        have sz517 : h364.size ≤ h368.size := (Nat.le_trans E365.1 E368.1)
        have sz518 : h364.size ≤ h370.size := (Nat.le_trans sz517 (Nat.le_of_eq W370.size.symm))
        have sz519 : h364.size ≤ h374.size := (Nat.le_trans sz518 (Nat.le_of_eq W374.size.symm))
        have sz520 : h364.size ≤ h388.size := (Nat.le_trans sz519 K388.1)
        have sz521 : h364.size ≤ h390.size := (Nat.le_trans sz520 E390.1)
        have nq522 : sa_364 ≠ b393 := Nat.ne_of_lt (Nat.lt_of_lt_of_le (Nat.lt_of_lt_of_le p364_2.lt sz521) (Nat.le_of_eq gq393.symm))
        have nq523 : sa_364 ≠ b390 := Nat.ne_of_lt (Nat.lt_of_lt_of_le (Nat.lt_of_lt_of_le p364_2.lt sz520) (Nat.le_of_eq gq390.symm))
        have f524 : Fld Z h413 sa_364 cST "value" "[B" (.ref ta_364) := ((((((((((p364_3.ext E365).ext E368).other W370 (Or.inl nq515)).other W374 (Or.inl nq515)).keep K388 (ninS nq516 nin0)).ext E390).ext E393).other W395 (Or.inl nq522)).other W399 (Or.inl nq522)).keep K413 (ninS nq523 nin0))
        have f525 : Fld Z h413 sa_364 cST "coder" "B" (.int 0) := ((((((((((p364_4.ext E365).ext E368).other W370 (Or.inl nq515)).other W374 (Or.inl nq515)).keep K388 (ninS nq516 nin0)).ext E390).ext E393).other W395 (Or.inl nq522)).other W399 (Or.inl nq522)).keep K413 (ninS nq523 nin0))
        have nq526 : ta_364 ≠ b368 := Nat.ne_of_lt (Nat.lt_of_lt_of_le (Nat.lt_of_lt_of_le p364_5.lt E365.1) (Nat.le_of_eq gq368.symm))
        have nq527 : ta_364 ≠ b365 := Nat.ne_of_lt (Nat.lt_of_lt_of_le (Nat.lt_of_lt_of_le p364_5.lt (Nat.le_refl _)) (Nat.le_of_eq gq365.symm))
        have nq528 : ta_364 ≠ b393 := Nat.ne_of_lt (Nat.lt_of_lt_of_le (Nat.lt_of_lt_of_le p364_5.lt sz521) (Nat.le_of_eq gq393.symm))
        have nq529 : ta_364 ≠ b390 := Nat.ne_of_lt (Nat.lt_of_lt_of_le (Nat.lt_of_lt_of_le p364_5.lt sz520) (Nat.le_of_eq gq390.symm))
        have f530 : Arv Z h413 ta_364 kt_364 .byte (0 : Int32) [] (.int (0 : Int32)) := ((((((((((p364_5.ext E365).ext E368).other W370 nq526).other W374 nq526).keep K388 (ninS nq527 nin0)).ext E390).ext E393).other W395 nq528).other W399 nq528).keep K413 (ninS nq529 nin0))
        obtain ⟨cq531, kq531, q531a, q531b, q531c⟩ := isOf hZ e513 f514
        obtain ⟨_, _, ⟨T531, L531, kk531, nn531⟩, -, X531, ⟨Lc531, hQ531, lq531, yq531, zq531⟩, st531⟩ := X513.virtualBack hx (y := mn29) (z := mn29) hown (mvT hZ (w161 hw)) (mvT hZ (w162 hw)) (notFace_of_selects (args := #[]) (mvT hZ (w164 hw))) (mvT hZ (w164 hw)) (mvT hZ (w163 hw)) (by decide) (backOf (W := 0) (rm_sisEmpty0 l Z a0 hw [] sa_364 ta_364 kt_364 G1 h413 n0 (Nat.le_trans Z0 sz445) f514 f524 f525 f530 CS CSn oe444) hZ (w165 hw) (w24 hw) (by decide) (by decide)) q531a q531c (g := (mkF m 255 #[iv p0, iv p1, iv p2, iv 1, iv 1, iv q1, iv q2, iv (48 + q1), iv (48 + q2), rv b189, rv sa_196, rv sa_211, rv sa_358, rv sa_364, rv b365, rv b390] [(.ref sa_364)])) rfl (by rw [hml]; rfl) (Steps.refl _) (argsL := []) (rest := []) (lenOf pd_4 rfl) rfl (by show 2 * 0 + _ ≤ _; exact Nat.le_of_eq rfl) (hb hby at_255) (fun _ _ => ⟨rfl, e513, (by decide : 17 + 0 ≤ _), (by decide : 58 + 0 ≤ _)⟩)
        dsimp only [Pt.U, Pt.locs, Pt.cells, Pt.slots] at X531 lq531 yq531 zq531 st531 hQ531
        subst lq531 yq531 zq531
        obtain ⟨h531, e531⟩ : ∃ z, T531.heap = z := ⟨_, rfl⟩
        rw [e531] at hQ531
        obtain ⟨rfl, N531q, he531⟩ := hQ531
        have N531 := Fr.app N513 N531q
        rw [he531] at e531
        refine go_tr st531 ?_
        show Go _ _ _ _ (T531.setTop (mkF m 258 #[iv p0, iv p1, iv p2, iv 1, iv 1, iv q1, iv q2, iv (48 + q1), iv (48 + q2), rv b189, rv sa_196, rv sa_211, rv sa_358, rv sa_364, rv b365, rv b390] [(.int 1)]))
        refine go_st (fun t k => XS.ifNo X531.here hx rfl (hb hby at_258) rfl ((if0 _ _).trans (feq ((by decide) : ¬ ((1 : Int32) = (0 : Int32)))).1) k) ?_
        show Go _ _ _ _ (T531.setTop (mkF m 261 #[iv p0, iv p1, iv p2, iv 1, iv 1, iv q1, iv q2, iv (48 + q1), iv (48 + q2), rv b189, rv sa_196, rv sa_211, rv sa_358, rv sa_364, rv b365, rv b390] []))
        refine go_st (fun t k => XS.iconst X531.here hx rfl (hb hby at_261) k) ?_
        refine go_st (fun t k => XS.goto X531.here hx rfl (pc0 := 262) (pc' := 266) rfl (hb hby at_262) (by decide) (by decide) k) ?_
        show Go _ _ _ _ (T531.setTop (mkF m 266 #[iv p0, iv p1, iv p2, iv 1, iv 1, iv q1, iv q2, iv (48 + q1), iv (48 + q2), rv b189, rv sa_196, rv sa_211, rv sa_358, rv sa_364, rv b365, rv b390] [(.int 1)]))
        subst hPP
        have ke532 : Keep h0 h189 [] := (Keep.ext (Keep.refl h0 []) E189)
        have ke533 : Keep h0 h193 [] := (Keep.trans ke532 K193 (allS (Or.inr (Nat.le_of_eq gq189.symm)) all0))
        have ke534 : Keep h0 h196 [] := (Keep.trans ke533 K196 (allS (Or.inr (Nat.le_trans E189.1 lf193_0)) all0))
        have ke535 : Keep h0 h205 [] := (Keep.trans ke534 K205 (allS (Or.inr (Nat.le_trans E189.1 lf193_0)) (allS (Or.inr (Nat.le_trans E189.1 lf193_1)) (allS (Or.inr (Nat.le_of_eq gq189.symm)) all0))))
        have ke536 : Keep h0 h208 [] := (Keep.trans ke535 K208 (allS (Or.inr (Nat.le_trans E189.1 lf193_0)) (allS (Or.inr (Nat.le_trans E189.1 lf193_1)) (allS (Or.inr (Nat.le_of_eq gq189.symm)) all0))))
        have ke537 : Keep h0 h211 [] := (Keep.trans ke536 K211 (allS (Or.inr (Nat.le_trans E189.1 lf193_0)) all0))
        have ke538 : Keep h0 h355 [] := (Keep.trans ke537 K355 (allS (Or.inr (Nat.le_trans E189.1 lf193_0)) (allS (Or.inr (Nat.le_trans E189.1 lf193_1)) (allS (Or.inr (Nat.le_of_eq gq189.symm)) all0))))
        have ke539 : Keep h0 h358 [] := (Keep.trans ke538 K358 (allS (Or.inr (Nat.le_trans E189.1 lf193_0)) all0))
        have ke540 : Keep h0 h364 [] := (Keep.trans ke539 K364 (allS (Or.inr (Nat.le_trans E189.1 lf193_0)) all0))
        have ke541 : Keep h0 h365 [] := (Keep.ext ke540 E365)
        have ke542 : Keep h0 h368 [] := (Keep.ext ke541 E368)
        have ke543 : Keep h0 h370 [] := (Keep.wr ke542 W370 (Or.inr (Nat.le_trans sz372 (Nat.le_of_eq gq368.symm))))
        have ke544 : Keep h0 h374 [] := (Keep.wr ke543 W374 (Or.inr (Nat.le_trans sz372 (Nat.le_of_eq gq368.symm))))
        have ke545 : Keep h0 h388 [] := (Keep.trans ke544 K388 (allS (Or.inr (Nat.le_trans sz371 (Nat.le_of_eq gq365.symm))) all0))
        have ke546 : Keep h0 h390 [] := (Keep.ext ke545 E390)
        have ke547 : Keep h0 h393 [] := (Keep.ext ke546 E393)
        have ke548 : Keep h0 h395 [] := (Keep.wr ke547 W395 (Or.inr (Nat.le_trans sz397 (Nat.le_of_eq gq393.symm))))
        have ke549 : Keep h0 h399 [] := (Keep.wr ke548 W399 (Or.inr (Nat.le_trans sz397 (Nat.le_of_eq gq393.symm))))
        have ke550 : Keep h0 h413 [] := (Keep.trans ke549 K413 (allS (Or.inr (Nat.le_trans sz396 (Nat.le_of_eq gq390.symm))) all0))
        obtain ⟨fs, hr, hrun, hended, hW, hsame⟩ := X531.leave (v := some (.int 1)) (fun h => by rw [Bd.returns] at h; cases h)
        refine ⟨_, _, ?_, hrun, hended, _, _, rfl, ?_, ⟨_, rfl⟩, hW, hsame.mono (by decide) (by decide)⟩
        · exact retN X531 hx (t := .boolean) Bd.returns (by simp) (hb hby at_266) hr
        · show Q_law _ _ _ _ _ _ _ _ _ _ T531.heap _
          rw [e531]
          exact ⟨rfl, N531, ke550⟩
    by_cases hc551 : (p0 &&& (2 : Int32)) = (0 : Int32)
    · skip
      refine go_st (fun t k => XS.ifYes X0.here hx rfl (pc0 := 15) (pc' := 22) rfl (hb hby at_15) rfl ((if0 _ _).trans (teq (hc551 : (p0 &&& (2 : Int32)) = (0 : Int32))).1) (by decide) (by decide) k) ?_
      show Go _ _ _ _ (s₁.setTop (mkF m 22 #[iv p0, iv p1, iv p2, iv 1, .unset, .unset, .unset, .unset, .unset, .unset, .unset, .unset, .unset, .unset, .unset, .unset] []))
      refine go_st (fun t k => XS.iconst X0.here hx rfl (hb hby at_22) k) ?_
      show Go _ _ _ _ (s₁.setTop (mkF m 23 #[iv p0, iv p1, iv p2, iv 1, .unset, .unset, .unset, .unset, .unset, .unset, .unset, .unset, .unset, .unset, .unset, .unset] [(.int 0)]))
      exact j188 _ _ (0 : Int32) X0 N0 e0 (Or.inl rfl)
    · skip
      refine go_st (fun t k => XS.ifNo X0.here hx rfl (hb hby at_15) rfl ((if0 _ _).trans (feq (hc551 : ¬ ((p0 &&& (2 : Int32)) = (0 : Int32)))).1) k) ?_
      show Go _ _ _ _ (s₁.setTop (mkF m 18 #[iv p0, iv p1, iv p2, iv 1, .unset, .unset, .unset, .unset, .unset, .unset, .unset, .unset, .unset, .unset, .unset, .unset] []))
      refine go_st (fun t k => XS.iconst X0.here hx rfl (hb hby at_18) k) ?_
      refine go_st (fun t k => XS.goto X0.here hx rfl (pc0 := 19) (pc' := 23) rfl (hb hby at_19) (by decide) (by decide) k) ?_
      show Go _ _ _ _ (s₁.setTop (mkF m 23 #[iv p0, iv p1, iv p2, iv 1, .unset, .unset, .unset, .unset, .unset, .unset, .unset, .unset, .unset, .unset, .unset, .unset] [(.int 1)]))
      exact j188 _ _ (1 : Int32) X0 N0 e0 (Or.inr rfl)
theorem dig_of {s : State} {args : Array Value} {t : Term} {da : Addr} {dc : Cell} {kB : Class} (ev : t.eval args s none [] s = some (.ref da)) (hp : s.heap[da]? = some dc) (fB : s.vm.findClass "[B" = some dc.cls) (hk : s.vm.classes[dc.cls]? = some kB)
    (wa : (Jvm.Cond.arrayClass .byte).before args s = true) (hl : (Jvm.Cond.eq (.length t) (.int 100)).value args s none s [] = some true) (hall : (Jvm.Cond.all t (.eq (.elem t (.index 0)) (.add (.int 48) (.rem (.index 0) (.int 10))))).value args s none s [] = some true)
    (hev : ∀ i, t.eval args s none [i] s = some (.ref da)) :
    Arr s s.heap da dc .byte ∧ dc.slots.size = 100 ∧ ∀ i : Nat, i < 10 → dc.slots[i]? = some (.int (48 + Int32.ofNat i)) := by
  obtain ⟨c2, k2, comp, f2, hk2, hkind⟩ := Cond.arrayClass_spec wa
  have f2' : s.vm.findClass "[B" = some c2 := f2
  cases f2'.symm.trans fB
  cases hk.symm.trans hk2
  have har : ∃ v, (Term.length t).eval args s none [] s = some v := by
    cases q : (Term.length t).eval args s none [] s with
    | none => simp [Cond.value, q] at hl
    | some v => exact ⟨v, rfl⟩
  obtain ⟨v, hv⟩ := har
  obtain ⟨a, cell, e1, e2, rfl⟩ := Term.length_spec hv
  cases (ev.symm.trans e1)
  have e2' := e2
  simp only [State.arrayAt?, hp, hk, hkind, Option.bind_eq_bind, Option.bind_some] at e2'
  split at e2'
  · cases e2'
  rename_i hne
  cases e2'
  have hsz : dc.slots.size = 100 := by
    have hl' : (Term.length t).eval args s none [] s = some (.int 100) := by
      have hi : (Term.int 100).eval args s none [] s = some (.int 100) := rfl
      simp only [Cond.value, hv, hi] at hl
      rw [hv]; simpa using hl
    simp only [Term.eval, ev, e2, Option.bind_eq_bind, Option.bind_some, Option.pure_def] at hl'
    split at hl'
    · rename_i hb
      have q : dc.slots.size.toInt32 = (100 : Int32) := by simpa using hl'
      have q2 := congrArg Int32.toInt q
      rw [len_toInt hb] at q2
      have : (100 : Int32).toInt = 100 := rfl
      omega
    · cases hl'
  refine ⟨⟨hp, ⟨fun k q => hne (Or.inr (by rw [q]; rfl)), kB, hk, comp, hkind⟩, fun q => hne (Or.inl q)⟩, hsz, fun i hi => ?_⟩
  simp only [Cond.value, ev, e2] at hall
  have q := foldl_all _ hall i (List.mem_range.mpr (by omega))
  have ht : ∀ k : Nat, k < 10 → ¬ (k.toInt32 < 0) ∧ k.toInt32.toNatClampNeg = k ∧ (48 : Int32) + k.toInt32 % 10 = 48 + Int32.ofNat k := by decide +kernel
  obtain ⟨t1, t2, t3⟩ := ht i hi
  have hs : dc.slots[i]? = some dc.slots[i] := Array.getElem?_eq_getElem (by omega)
  simp only [Cond.value, Term.eval, hev, e2, Option.bind_eq_bind, Option.bind_some, List.getElem?_cons_zero, Option.map_some, if_neg t1, t2, Option.pure_def, hs, if_neg (show ¬ (10 : Int32) = 0 from by decide)] at q
  rw [hs, ← t3]
  generalize dc.slots[i] = w at q
  cases w <;> simp_all
set_option maxRecDepth 65536 in
set_option maxHeartbeats 40000000 in
theorem comes_1 {Post : Tables → Env → Array Value → State → Outcome → State → Prop} (hpost : ∀ tb e args s v u, (limb_1_1.after args s (.returned v) u = true ∧ limb_1_2.after args s (.returned v) u = true ∧ True) → FrameEnd s (.returned v) u (Jvm.fieldLocs frame_1_writes args s ++ Jvm.arrayLocs frame_1_arrays args s ++ Jvm.staticLocs frame_1_statics s) 48 192 → Post tb e args s (.returned v) u) :
    ArmFor flags0 classFile x code maxLocals ret World_1 tables_1 room_1 Calls_1 rest_1 Pre_1 Post := by
  intro l hfl _ _ p e ha hc hk s m args below hf hA hF happ hP
  obtain ⟨hcalls, hrest, hpre⟩ := hP
  obtain ⟨-, -, -, hnamed, -, -, -, hat⟩ := (Spec.applies_iff hf).mp happ
  obtain ⟨hg, hn⟩ := and_e (Cond.before_iff.mp (show (Jvm.Cond.and given_1 narrow_1).before args s = true from hpre))
  obtain ⟨hcnt, ha0⟩ := and_e hg
  obtain ⟨gi0, ha1⟩ := and_e ha0
  obtain ⟨gi1, ha2⟩ := and_e ha1
  have gi2 := ha2
  obtain ⟨w0_, w1_, w2_, rfl⟩ : ∃ w0_ w1_ w2_ : Value, args = #[w0_, w1_, w2_] := by
    have hs : args.size = 3 := by simpa [Cond.value, given_1] using hcnt
    obtain ⟨L⟩ := args
    match L, hs with
    | [w0_, w1_, w2_], _ => exact ⟨w0_, w1_, w2_, rfl⟩
  have hw := fun d (hd : d ∈ tables_1) => atoms_spec (ws := Jvm.Cond.code x code maxLocals ret :: tables_1) hat d (List.mem_cons_of_mem _ hd)
  have hfit : Fit s := fun {y c} hc i hi => by
    obtain ⟨ha, rfl⟩ := Array.getElem?_eq_some_iff.mp hc
    have q := List.all_eq_true.mp ((Array.all_eq_true_iff_forall_mem.mp hF) _ (Array.getElem_mem ha)) i (List.mem_range.mpr hi)
    simpa [Array.getElem?_eq_getElem hi] using q
  obtain ⟨hsets, hown0⟩ := atoms_of _ (rest_1_c_eq ▸ (show rest_1_c.before _ s = true from hrest))
  obtain ⟨i0, ei0⟩ := is_v gi0
  obtain rfl : w0_ = (.int i0) := Option.some.inj ei0
  obtain ⟨i1, ei1⟩ := is_v gi1
  obtain rfl : w1_ = (.int i1) := Option.some.inj ei1
  obtain ⟨i2, ei2⟩ := is_v gi2
  obtain rfl : w2_ = (.int i2) := Option.some.inj ei2
  have n3 := not_v (Cond.before_iff.mp (hsets _ (List.mem_of_getElem? (i := 2) rfl)))
  obtain ⟨G1, e6⟩ := is_v (Cond.before_iff.mp (hsets _ (List.mem_of_getElem? (i := 1) rfl)))
  have CS : Sta s s.heap "java/lang/String" "COMPACT_STRINGS" "Z" (.int G1) := Sta.start e6 (Or.inl (hsets _ (List.mem_of_getElem? (i := 0) rfl)))
  have CSn : ¬ (G1 = (0 : Int32)) := gotF (Cond.eq_ints e6 (Term.int_eval (0))) n3
  obtain ⟨da, cB, dc, kB, ev, fB, hpB, hkB, hst, rfl, -⟩ := Cond.exactly_spec (hsets _ (List.mem_of_getElem? (i := 12) rfl))
  have DS : Sta s s.heap "java/lang/Integer" "DigitOnes" "[B" (.ref da) := Sta.start ev (Or.inl (hsets _ (List.mem_of_getElem? (i := 11) rfl)))
  obtain ⟨DA, DV⟩ := dig_of ev hpB fB hkB (w25 hw) (Cond.before_iff.mp (hsets _ (List.mem_of_getElem? (i := 13) rfl))) (Cond.before_iff.mp (hsets _ (List.mem_of_getElem? (i := 14) rfl))) (fun i => ev)
  obtain ⟨n, o, h1, h2, h3, _, L, rfl, ⟨rfl, N, -⟩, hq⟩ := rm_law l s _ hw tables_1 i0 i1 i2 G1 da dc s.heap s.heap.size (Nat.le_refl _) CS CSn DS DA DV (Old.start s) p e ha hc hk s m _ below hf ((Spec.applies_iff_loose hf).mp happ).1 ⟨rfl, State.Warmed39.refl s, rfl⟩ trivial
  refine ⟨n, _, h1, h2, h3, hpost _ _ _ _ _ _ ⟨Cond.after_iff.mpr rfl, Cond.after_iff.mpr (eq_i res_at (Term.int_eval (1)) rfl), trivial⟩ ⟨hq.1, hq.2.1, (hq.2.2.sift fun y hy => Or.inr (N y hy)).mono (by decide) (by decide)⟩⟩
theorem main_1_1 : Claimed_1_1 := comes_1 fun _ _ _ _ _ _ h hF => ⟨h.1, hF⟩
theorem main_1_2 : Claimed_1_2 := comes_1 fun _ _ _ _ _ _ h hF => ⟨h.2.1, hF⟩
end Jvm.Pilot.@@N@@
namespace Jvm.Pilot.@@N@@
open Jvm Jvm.ClassFile Sem Op Lib Jvm.Free Jvm.Stand Jvm.Pilot.@@N@@.Jvm.D
/-! MADE BY PROGRAM (witnessworld.py) out of the Statement's table words and the real class files: 29 classes; the members and pool entries that the words name. The judged class is class 1, her method 1. -/
namespace start1
open Jvm.ClassFile
def u (s : String) : CpInfo := .utf8 (stringToUtf16 s)
/-- a pool by its gaps: so many unusable entries, then the entry; so many at the end -/
def gap : Nat → List CpInfo → List CpInfo
  | 0, r => r
  | n + 1, r => .unusable :: gap n r
def poolList (es : List (Nat × CpInfo)) (last : Nat) : List CpInfo := es.foldr (fun e r => gap e.1 (e.2 :: r)) (gap last [])
def pool (es : List (Nat × CpInfo)) (last : Nat) : Array CpInfo := ⟨poolList es last⟩
def fileOf (pool : Array CpInfo) (this : Nat) (attrs : Array Attribute := #[]) (ms : Array MethodInfo := #[]) (fl : Nat := 33) (sup : Nat := 0) (ifs : Array Nat := #[]) (fds : Array FieldInfo := #[]) : ClassFile where
  minorVersion := 0
  majorVersion := 65
  constantPool := pool
  accessFlags := fl
  thisClass := this
  superClass := sup
  interfaces := ifs
  fields := fds
  methods := ms
  attributes := attrs
def plain (name : String) (sup : Option ClassId) : Class where
  name := name
  kind := .ordinary
  loader := none
  accessFlags := 33
  super := sup
  interfaces := #[]
  cf := none
  fields := #[]
  methods := #[]
  instanceTypes := #[]
  staticTypes := #[]
  resolved := #[]
  callSites := []
  init := .initialized
  statics := none
  mirror := none

def pool0 : Array CpInfo := pool [(5, u "<init>"), (0, u "()V"), (1, .class_ 10), (1, u "java/lang/Object")] 113

def k0c0 : Code := { maxStack := 0, maxLocals := 1, code := object_method_1_code, exceptionTable := #[], attributes := #[] }
def k0m0 : Method := { name := "<init>", desc := "()V", sig := { parameters := [], returnType := none }, accessFlags := 1, code := some k0c0 }
/-- java/lang/Object -/
def k0 : Class := { plain "java/lang/Object" none with
  accessFlags := 33
  interfaces := #[]
  cf := some (fileOf pool0 8 #[] #[{ accessFlags := 1, nameIndex := 5, descriptorIndex := 6, attributes := #[] }] 33 0 #[] #[])
  fields := #[]
  methods := #[k0m0]
  instanceTypes := #[]
  staticTypes := #[]
  resolved := Array.replicate 124 none
  statics := none }

def pool1 : Array CpInfo := pool [(2, .class_ 4), (0, .nameAndType 5 6), (0, u "java/lang/Object"), (0, u "<init>"), (0, u "()V"), (0, .integer 2147483647), (0, .class_ 9), (0, u "com/example/adjoinery/adjoinery/JsonWriter"), (0, .methodref 8 3), (0, .methodref 8 12), (0, .nameAndType 13 14), (0, u "drain"), (0, u "()Ljava/lang/String;"), (0, .methodref 8 16), (0, .nameAndType 17 18), (0, u "startArray"), (0, u "()Lcom/example/adjoinery/adjoinery/JsonWriter;"), (0, .methodref 8 20), (0, .nameAndType 21 22), (0, u "number"), (0, u "(J)Lcom/example/adjoinery/adjoinery/JsonWriter;"), (0, .methodref 8 24), (0, .nameAndType 25 18), (0, u "endArray"), (0, .class_ 27), (0, u "java/lang/String"), (0, .methodref 26 29), (0, .nameAndType 5 30), (0, u "([C)V"), (0, .methodref 26 32), (0, .nameAndType 33 34), (0, u "valueOf"), (0, u "(C)Ljava/lang/String;"), (0, .methodref 26 36), (0, .nameAndType 37 38), (0, u "isEmpty"), (0, u "()Z"), (0, .methodref 26 40), (0, .nameAndType 41 42), (0, u "equals"), (0, u "(Ljava/lang/Object;)Z"), (0, .class_ 44), (0, u "com/example/adjoinery/adjoinery/JsonWriterDrainPinLaw"), (2, u "law"), (0, u "(III)Z")] 3

def k1m0 : Method := { name := "<init>", desc := "()V", sig := { parameters := [], returnType := none }, accessFlags := 1, code := none }
def k1c1 : Code := { maxStack := 6, maxLocals := 16, code := code, exceptionTable := #[], attributes := #[] }
def k1m1 : Method := { name := "law", desc := "(III)Z", sig := { parameters := [.int, .int, .int], returnType := some .boolean }, accessFlags := 9, code := some k1c1 }
/-- com/example/adjoinery/adjoinery/JsonWriterDrainPinLaw -/
def k1 : Class := { plain "com/example/adjoinery/adjoinery/JsonWriterDrainPinLaw" (some 0) with
  accessFlags := 49
  interfaces := #[]
  cf := some (fileOf pool1 43 #[] #[{ accessFlags := 1, nameIndex := 5, descriptorIndex := 6, attributes := #[] }, { accessFlags := 9, nameIndex := 47, descriptorIndex := 48, attributes := #[] }] 49 2 #[] #[])
  fields := #[]
  methods := #[k1m0, k1m1]
  instanceTypes := #[]
  staticTypes := #[]
  resolved := Array.replicate 52 none
  statics := none }

def pool2 : Array CpInfo := pool [(1, .methodref 2 3), (0, .class_ 4), (0, .nameAndType 5 6), (0, u "java/lang/Object"), (0, u "<init>"), (0, u "()V"), (0, .class_ 8), (0, u "java/lang/StringBuilder"), (0, .methodref 7 3), (0, .fieldref 11 12), (0, .class_ 13), (0, .nameAndType 14 15), (0, u "com/example/adjoinery/adjoinery/JsonWriter"), (0, u "text"), (0, u "Ljava/lang/StringBuilder;"), (0, .methodref 11 17), (0, .nameAndType 18 19), (0, u "open"), (0, u "(C)Lcom/example/adjoinery/adjoinery/JsonWriter;"), (0, .methodref 11 21), (0, .nameAndType 22 19), (0, u "close"), (0, .methodref 11 24), (0, .nameAndType 25 6), (0, u "separate"), (4, .methodref 7 31), (0, .nameAndType 32 33), (0, u "append"), (0, u "(C)Ljava/lang/StringBuilder;"), (0, .fieldref 11 35), (0, .nameAndType 36 37), (0, u "afterValue"), (0, u "Z"), (3, .methodref 7 42), (0, .nameAndType 32 43), (0, u "(J)Ljava/lang/StringBuilder;"), (0, .methodref 7 45), (0, .nameAndType 46 47), (0, u "toString"), (0, u "()Ljava/lang/String;"), (0, .methodref 7 49), (0, .nameAndType 50 51), (0, u "setLength"), (0, u "(I)V"), (35, u "HEX_DIGITS"), (0, u "[C"), (9, u "()Lcom/example/adjoinery/adjoinery/JsonWriter;"), (1, u "startArray"), (0, u "endArray"), (3, u "number"), (1, u "(J)Lcom/example/adjoinery/adjoinery/JsonWriter;"), (0, u "drain")] 4

def k2c0 : Code := { maxStack := 3, maxLocals := 1, code := prog_33_method_1_code, exceptionTable := #[], attributes := #[] }
def k2m0 : Method := { name := "<init>", desc := "()V", sig := { parameters := [], returnType := none }, accessFlags := 0, code := some k2c0 }
def k2c1 : Code := { maxStack := 2, maxLocals := 1, code := prog_33_method_4_code, exceptionTable := #[], attributes := #[] }
def k2m1 : Method := { name := "startArray", desc := "()Lcom/example/adjoinery/adjoinery/JsonWriter;", sig := { parameters := [], returnType := some (.object "com/example/adjoinery/adjoinery/JsonWriter") }, accessFlags := 0, code := some k2c1 }
def k2c2 : Code := { maxStack := 2, maxLocals := 1, code := prog_33_method_5_code, exceptionTable := #[], attributes := #[] }
def k2m2 : Method := { name := "endArray", desc := "()Lcom/example/adjoinery/adjoinery/JsonWriter;", sig := { parameters := [], returnType := some (.object "com/example/adjoinery/adjoinery/JsonWriter") }, accessFlags := 0, code := some k2c2 }
def k2c3 : Code := { maxStack := 3, maxLocals := 3, code := prog_33_method_9_code, exceptionTable := #[], attributes := #[] }
def k2m3 : Method := { name := "number", desc := "(J)Lcom/example/adjoinery/adjoinery/JsonWriter;", sig := { parameters := [.long], returnType := some (.object "com/example/adjoinery/adjoinery/JsonWriter") }, accessFlags := 0, code := some k2c3 }
def k2c4 : Code := { maxStack := 2, maxLocals := 2, code := prog_33_method_10_code, exceptionTable := #[], attributes := #[] }
def k2m4 : Method := { name := "drain", desc := "()Ljava/lang/String;", sig := { parameters := [], returnType := some (.object "java/lang/String") }, accessFlags := 0, code := some k2c4 }
def k2c5 : Code := { maxStack := 2, maxLocals := 2, code := prog_33_method_11_code, exceptionTable := #[], attributes := #[] }
def k2m5 : Method := { name := "open", desc := "(C)Lcom/example/adjoinery/adjoinery/JsonWriter;", sig := { parameters := [.char], returnType := some (.object "com/example/adjoinery/adjoinery/JsonWriter") }, accessFlags := 2, code := some k2c5 }
def k2c6 : Code := { maxStack := 2, maxLocals := 2, code := prog_33_method_12_code, exceptionTable := #[], attributes := #[] }
def k2m6 : Method := { name := "close", desc := "(C)Lcom/example/adjoinery/adjoinery/JsonWriter;", sig := { parameters := [.char], returnType := some (.object "com/example/adjoinery/adjoinery/JsonWriter") }, accessFlags := 2, code := some k2c6 }
def k2c7 : Code := { maxStack := 2, maxLocals := 1, code := prog_33_method_13_code, exceptionTable := #[], attributes := #[] }
def k2m7 : Method := { name := "separate", desc := "()V", sig := { parameters := [], returnType := none }, accessFlags := 2, code := some k2c7 }
/-- com/example/adjoinery/adjoinery/JsonWriter -/
def k2 : Class := { plain "com/example/adjoinery/adjoinery/JsonWriter" (some 0) with
  accessFlags := 48
  interfaces := #[]
  cf := some (fileOf pool2 11 #[] #[{ accessFlags := 0, nameIndex := 5, descriptorIndex := 6, attributes := #[] }, { accessFlags := 0, nameIndex := 100, descriptorIndex := 98, attributes := #[] }, { accessFlags := 0, nameIndex := 101, descriptorIndex := 98, attributes := #[] }, { accessFlags := 0, nameIndex := 105, descriptorIndex := 107, attributes := #[] }, { accessFlags := 0, nameIndex := 108, descriptorIndex := 47, attributes := #[] }, { accessFlags := 2, nameIndex := 18, descriptorIndex := 19, attributes := #[] }, { accessFlags := 2, nameIndex := 22, descriptorIndex := 19, attributes := #[] }, { accessFlags := 2, nameIndex := 25, descriptorIndex := 6, attributes := #[] }] 48 2 #[] #[{ accessFlags := 26, nameIndex := 87, descriptorIndex := 88, attributes := #[] }, { accessFlags := 18, nameIndex := 14, descriptorIndex := 15, attributes := #[] }, { accessFlags := 2, nameIndex := 36, descriptorIndex := 37, attributes := #[] }])
  fields := #[{ name := "HEX_DIGITS", type := (.array .char), accessFlags := 26, slot := 0, constantValue := 0 }, { name := "text", type := (.object "java/lang/StringBuilder"), accessFlags := 18, slot := 0, constantValue := 0 }, { name := "afterValue", type := .boolean, accessFlags := 2, slot := 1, constantValue := 0 }]
  methods := #[k2m0, k2m1, k2m2, k2m3, k2m4, k2m5, k2m6, k2m7]
  instanceTypes := #[(.object "java/lang/StringBuilder"), .boolean]
  staticTypes := #[(.array .char)]
  resolved := Array.replicate 113 none
  statics := none }

def pool3 : Array CpInfo := pool [(1, .class_ 2), (0, u "java/lang/Appendable"), (0, .class_ 4), (0, u "java/lang/Object")] 9

/-- java/lang/Appendable -/
def k3 : Class := { plain "java/lang/Appendable" (some 0) with
  accessFlags := 1537
  interfaces := #[]
  cf := some (fileOf pool3 1 #[] #[] 1537 3 #[] #[])
  fields := #[]
  methods := #[]
  instanceTypes := #[]
  staticTypes := #[]
  resolved := Array.replicate 14 none
  statics := none }

def pool4 : Array CpInfo := pool [(2, .class_ 4), (1, u "java/lang/CharSequence"), (42, .class_ 48), (0, u "java/lang/CharSequence$1CodePointIterator"), (10, .class_ 60), (0, u "java/lang/CharSequence$1CharIterator"), (5, .class_ 67), (0, u "java/lang/Object")] 63

/-- java/lang/CharSequence -/
def k4 : Class := { plain "java/lang/CharSequence" (some 0) with
  accessFlags := 1537
  interfaces := #[]
  cf := some (fileOf pool4 2 #[.nestMembers #[47, 59]] #[] 1537 66 #[] #[])
  fields := #[]
  methods := #[]
  instanceTypes := #[]
  staticTypes := #[]
  resolved := Array.replicate 131 none
  statics := none }

def pool5 : Array CpInfo := pool [(1, .class_ 2), (0, u "java/lang/String"), (0, .methodref 4 5), (0, .class_ 6), (0, .nameAndType 7 8), (0, u "java/lang/Object"), (0, u "<init>"), (0, u "()V"), (1, .class_ 12), (1, u "java/lang/AbstractStringBuilder"), (0, u "EMPTYVALUE"), (0, u "[B"), (0, .fieldref 10 16), (0, .nameAndType 17 14), (0, u "value"), (0, .fieldref 1 19), (0, .nameAndType 20 21), (0, u "COMPACT_STRINGS"), (0, u "Z"), (0, .fieldref 10 23), (0, .nameAndType 24 25), (0, u "coder"), (0, u "B"), (8, u "length"), (0, u "()I"), (9, u "append"), (2, .class_ 49), (0, u "java/lang/CharSequence"), (23, .fieldref 10 74), (0, .nameAndType 75 21), (0, u "maybeLatin1"), (3, .fieldref 10 80), (0, .nameAndType 81 82), (0, u "count"), (0, u "I"), (0, .methodref 10 84), (0, .nameAndType 85 86), (0, u "isLatin1"), (0, u "()Z"), (1, .class_ 90), (1, u "java/lang/StringLatin1"), (9, .methodref 10 101), (0, .nameAndType 102 103), (0, u "ensureCapacityInternal"), (0, u "(I)V"), (84, u "getChars"), (2, .methodref 88 192), (0, .nameAndType 193 194), (0, u "canEncode"), (0, u "(C)Z"), (52, u "stringSize"), (6, .methodref 255 256), (0, .class_ 257), (0, .nameAndType 247 258), (0, u "java/lang/Long"), (0, u "(J)I"), (0, .methodref 255 260), (0, .nameAndType 188 261), (0, u "(JI[B)I"), (30, u "(C)Ljava/lang/AbstractStringBuilder;"), (110, u "()[B"), (40, .class_ 445), (0, u "java/lang/Appendable"), (30, u "setLength"), (36, u "(J)Ljava/lang/AbstractStringBuilder;"), (38, u "getValue")] 56

def k5m0 : Method := { name := "<init>", desc := "()V", sig := { parameters := [], returnType := none }, accessFlags := 0, code := none }
def k5c1 : Code := { maxStack := 2, maxLocals := 2, code := jdk_68_method_2_code, exceptionTable := #[], attributes := #[] }
def k5m1 : Method := { name := "<init>", desc := "(I)V", sig := { parameters := [.int], returnType := none }, accessFlags := 0, code := some k5c1 }
def k5c2 : Code := { maxStack := 1, maxLocals := 1, code := jdk_68_method_6_code, exceptionTable := #[], attributes := #[] }
def k5m2 : Method := { name := "length", desc := "()I", sig := { parameters := [], returnType := some .int }, accessFlags := 1, code := some k5c2 }
def k5c3 : Code := { maxStack := 4, maxLocals := 3, code := jdk_68_method_9_code, exceptionTable := #[], attributes := #[] }
def k5m3 : Method := { name := "ensureCapacityInternal", desc := "(I)V", sig := { parameters := [.int], returnType := none }, accessFlags := 2, code := some k5c3 }
def k5c4 : Code := { maxStack := 3, maxLocals := 2, code := jdk_68_method_13_code, exceptionTable := #[], attributes := #[] }
def k5m4 : Method := { name := "setLength", desc := "(I)V", sig := { parameters := [.int], returnType := none }, accessFlags := 1, code := some k5c4 }
def k5c5 : Code := { maxStack := 5, maxLocals := 2, code := jdk_68_method_31_code, exceptionTable := #[], attributes := #[] }
def k5m5 : Method := { name := "append", desc := "(C)Ljava/lang/AbstractStringBuilder;", sig := { parameters := [.char], returnType := some (.object "java/lang/AbstractStringBuilder") }, accessFlags := 1, code := some k5c5 }
def k5c6 : Code := { maxStack := 5, maxLocals := 5, code := jdk_68_method_33_code, exceptionTable := #[], attributes := #[] }
def k5m6 : Method := { name := "append", desc := "(J)Ljava/lang/AbstractStringBuilder;", sig := { parameters := [.long], returnType := some (.object "java/lang/AbstractStringBuilder") }, accessFlags := 1, code := some k5c6 }
def k5c7 : Code := { maxStack := 1, maxLocals := 1, code := jdk_68_method_64_code, exceptionTable := #[], attributes := #[] }
def k5m7 : Method := { name := "getValue", desc := "()[B", sig := { parameters := [], returnType := some (.array .byte) }, accessFlags := 16, code := some k5c7 }
def k5c8 : Code := { maxStack := 1, maxLocals := 1, code := jdk_68_method_68_code, exceptionTable := #[], attributes := #[] }
def k5m8 : Method := { name := "isLatin1", desc := "()Z", sig := { parameters := [], returnType := some .boolean }, accessFlags := 16, code := some k5c8 }
/-- java/lang/AbstractStringBuilder -/
def k5 : Class := { plain "java/lang/AbstractStringBuilder" (some 0) with
  accessFlags := 1056
  interfaces := #[3, 4]
  cf := some (fileOf pool5 10 #[] #[{ accessFlags := 0, nameIndex := 7, descriptorIndex := 8, attributes := #[] }, { accessFlags := 0, nameIndex := 7, descriptorIndex := 103, attributes := #[] }, { accessFlags := 1, nameIndex := 34, descriptorIndex := 35, attributes := #[] }, { accessFlags := 2, nameIndex := 102, descriptorIndex := 103, attributes := #[] }, { accessFlags := 1, nameIndex := 476, descriptorIndex := 103, attributes := #[] }, { accessFlags := 1, nameIndex := 45, descriptorIndex := 292, attributes := #[] }, { accessFlags := 1, nameIndex := 45, descriptorIndex := 513, attributes := #[] }, { accessFlags := 16, nameIndex := 552, descriptorIndex := 403, attributes := #[] }, { accessFlags := 16, nameIndex := 85, descriptorIndex := 86, attributes := #[] }] 1056 4 #[444, 48] #[{ accessFlags := 0, nameIndex := 17, descriptorIndex := 14, attributes := #[] }, { accessFlags := 0, nameIndex := 24, descriptorIndex := 25, attributes := #[] }, { accessFlags := 0, nameIndex := 75, descriptorIndex := 21, attributes := #[] }, { accessFlags := 0, nameIndex := 81, descriptorIndex := 82, attributes := #[] }, { accessFlags := 26, nameIndex := 13, descriptorIndex := 14, attributes := #[] }])
  fields := #[{ name := "value", type := (.array .byte), accessFlags := 0, slot := 0, constantValue := 0 }, { name := "coder", type := .byte, accessFlags := 0, slot := 1, constantValue := 0 }, { name := "maybeLatin1", type := .boolean, accessFlags := 0, slot := 2, constantValue := 0 }, { name := "count", type := .int, accessFlags := 0, slot := 3, constantValue := 0 }, { name := "EMPTYVALUE", type := (.array .byte), accessFlags := 26, slot := 0, constantValue := 0 }]
  methods := #[k5m0, k5m1, k5m2, k5m3, k5m4, k5m5, k5m6, k5m7, k5m8]
  instanceTypes := #[(.array .byte), .byte, .boolean, .int]
  staticTypes := #[(.array .byte)]
  resolved := Array.replicate 609 none
  statics := none }

def pool6 : Array CpInfo := pool [(1, .class_ 2), (0, u "java/io/Serializable"), (0, .class_ 4), (0, u "java/lang/Object")] 2

/-- java/io/Serializable -/
def k6 : Class := { plain "java/io/Serializable" (some 0) with
  accessFlags := 1537
  interfaces := #[]
  cf := some (fileOf pool6 1 #[] #[] 1537 3 #[] #[])
  fields := #[]
  methods := #[]
  instanceTypes := #[]
  staticTypes := #[]
  resolved := Array.replicate 7 none
  statics := none }

def pool7 : Array CpInfo := pool [(1, .class_ 2), (0, u "java/lang/Comparable"), (0, .class_ 4), (0, u "java/lang/Object")] 7

/-- java/lang/Comparable -/
def k7 : Class := { plain "java/lang/Comparable" (some 0) with
  accessFlags := 1537
  interfaces := #[]
  cf := some (fileOf pool7 1 #[] #[] 1537 3 #[] #[])
  fields := #[]
  methods := #[]
  instanceTypes := #[]
  staticTypes := #[]
  resolved := Array.replicate 12 none
  statics := none }

def pool8 : Array CpInfo := pool [(1, .methodref 2 3), (0, .class_ 4), (0, .nameAndType 5 6), (0, u "java/lang/AbstractStringBuilder"), (0, u "<init>"), (0, u "(I)V"), (11, .class_ 20), (1, u "java/lang/String"), (3, .class_ 26), (1, u "java/lang/StringBuilder"), (0, u "append"), (22, .methodref 2 51), (0, .nameAndType 27 52), (0, u "(C)Ljava/lang/AbstractStringBuilder;"), (3, .methodref 2 57), (0, .nameAndType 27 58), (0, u "(J)Ljava/lang/AbstractStringBuilder;"), (78, .methodref 18 138), (0, .nameAndType 5 139), (0, u "(Ljava/lang/StringBuilder;)V"), (5, u "()V"), (10, u "()I"), (124, u "(J)Ljava/lang/StringBuilder;"), (4, u "(C)Ljava/lang/StringBuilder;"), (46, .methodref 2 334), (0, .nameAndType 335 6), (0, u "setLength"), (7, .methodref 2 344), (0, .nameAndType 345 156), (0, u "length"), (3, .class_ 350), (0, u "java/lang/Appendable"), (0, .class_ 352), (0, u "java/io/Serializable"), (0, .class_ 354), (0, u "java/lang/Comparable"), (0, .class_ 356), (0, u "java/lang/CharSequence"), (0, u "serialVersionUID"), (0, u "J"), (40, u "toString"), (0, u "()Ljava/lang/String;")] 21

def k8c0 : Code := { maxStack := 2, maxLocals := 1, code := jdk_67_method_1_code, exceptionTable := #[], attributes := #[] }
def k8m0 : Method := { name := "<init>", desc := "()V", sig := { parameters := [], returnType := none }, accessFlags := 1, code := some k8c0 }
def k8c1 : Code := { maxStack := 2, maxLocals := 2, code := jdk_67_method_14_code, exceptionTable := #[], attributes := #[] }
def k8m1 : Method := { name := "append", desc := "(C)Ljava/lang/StringBuilder;", sig := { parameters := [.char], returnType := some (.object "java/lang/StringBuilder") }, accessFlags := 1, code := some k8c1 }
def k8c2 : Code := { maxStack := 3, maxLocals := 3, code := jdk_67_method_16_code, exceptionTable := #[], attributes := #[] }
def k8m2 : Method := { name := "append", desc := "(J)Ljava/lang/StringBuilder;", sig := { parameters := [.long], returnType := some (.object "java/lang/StringBuilder") }, accessFlags := 1, code := some k8c2 }
def k8c3 : Code := { maxStack := 3, maxLocals := 1, code := jdk_67_method_42_code, exceptionTable := #[], attributes := #[] }
def k8m3 : Method := { name := "toString", desc := "()Ljava/lang/String;", sig := { parameters := [], returnType := some (.object "java/lang/String") }, accessFlags := 1, code := some k8c3 }
def k8c4 : Code := { maxStack := 2, maxLocals := 2, code := jdk_67_method_89_code, exceptionTable := #[], attributes := #[] }
def k8m4 : Method := { name := "setLength", desc := "(I)V", sig := { parameters := [.int], returnType := none }, accessFlags := 4161, code := some k8c4 }
def k8c5 : Code := { maxStack := 1, maxLocals := 1, code := jdk_67_method_93_code, exceptionTable := #[], attributes := #[] }
def k8m5 : Method := { name := "length", desc := "()I", sig := { parameters := [], returnType := some .int }, accessFlags := 4161, code := some k8c5 }
/-- java/lang/StringBuilder -/
def k8 : Class := { plain "java/lang/StringBuilder" (some 5) with
  accessFlags := 49
  interfaces := #[3, 6, 7, 4]
  cf := some (fileOf pool8 24 #[] #[{ accessFlags := 1, nameIndex := 5, descriptorIndex := 145, attributes := #[] }, { accessFlags := 1, nameIndex := 27, descriptorIndex := 286, attributes := #[] }, { accessFlags := 1, nameIndex := 27, descriptorIndex := 281, attributes := #[] }, { accessFlags := 1, nameIndex := 399, descriptorIndex := 400, attributes := #[] }, { accessFlags := 4161, nameIndex := 335, descriptorIndex := 6, attributes := #[] }, { accessFlags := 4161, nameIndex := 345, descriptorIndex := 156, attributes := #[] }] 49 2 #[349, 351, 353, 355] #[{ accessFlags := 24, nameIndex := 357, descriptorIndex := 358, attributes := #[] }])
  fields := #[{ name := "serialVersionUID", type := .long, accessFlags := 24, slot := 0, constantValue := 0 }]
  methods := #[k8m0, k8m1, k8m2, k8m3, k8m4, k8m5]
  instanceTypes := #[(.array .byte), .byte, .boolean, .int]
  staticTypes := #[.long]
  resolved := Array.replicate 422 none
  statics := none }

def pool9 : Array CpInfo := pool [(1, .class_ 2), (0, u "java/lang/constant/Constable"), (0, .class_ 4), (0, u "java/lang/Object")] 6

/-- java/lang/constant/Constable -/
def k9 : Class := { plain "java/lang/constant/Constable" (some 0) with
  accessFlags := 1537
  interfaces := #[]
  cf := some (fileOf pool9 1 #[] #[] 1537 3 #[] #[])
  fields := #[]
  methods := #[]
  instanceTypes := #[]
  staticTypes := #[]
  resolved := Array.replicate 11 none
  statics := none }

def pool10 : Array CpInfo := pool [(1, .class_ 2), (0, u "java/lang/constant/ConstantDesc"), (0, .class_ 4), (0, u "java/lang/Object")] 32

/-- java/lang/constant/ConstantDesc -/
def k10 : Class := { plain "java/lang/constant/ConstantDesc" (some 0) with
  accessFlags := 1537
  interfaces := #[]
  cf := some (fileOf pool10 1 #[] #[] 1537 3 #[] #[])
  fields := #[]
  methods := #[]
  instanceTypes := #[]
  staticTypes := #[]
  resolved := Array.replicate 37 none
  statics := none }

def pool11 : Array CpInfo := pool [(1, .methodref 2 3), (0, .class_ 4), (0, .nameAndType 5 6), (0, u "java/lang/Object"), (0, u "<init>"), (0, u "()V"), (2, .fieldref 10 11), (0, .class_ 12), (0, .nameAndType 13 14), (0, u "java/lang/String"), (0, u "value"), (0, u "[B"), (0, .fieldref 10 16), (0, .nameAndType 17 18), (0, u "coder"), (0, u "B"), (2, u "hash"), (0, u "I"), (2, u "hashIsZero"), (0, u "Z"), (0, .methodref 10 28), (0, .nameAndType 5 29), (0, u "([CIILjava/lang/Void;)V"), (8, .fieldref 10 39), (0, .nameAndType 40 26), (0, u "COMPACT_STRINGS"), (1, .class_ 44), (1, u "java/lang/StringUTF16"), (0, u "compress"), (1, .methodref 42 48), (0, .nameAndType 49 50), (0, u "coderFromArrayLen"), (0, u "([BI)B"), (2, u "toBytes"), (0, .methodref 55 56), (0, .class_ 57), (0, .nameAndType 58 59), (0, u "java/util/Arrays"), (0, u "copyOfRange"), (0, u "([BII)[B"), (47, .class_ 109), (1, u "java/lang/StringLatin1"), (32, u "()Z"), (34, .methodref 42 178), (0, .nameAndType 45 179), (0, u "([CII)[B"), (29, .methodref 10 210), (0, .nameAndType 5 211), (0, u "([BB)V"), (122, u "()I"), (5, u "()[B"), (28, u "(C)Z"), (119, .methodref 10 490), (0, .nameAndType 5 491), (0, u "(Ljava/lang/AbstractStringBuilder;Ljava/lang/Void;)V"), (1, .nameAndType 494 142), (0, u "isLatin1"), (11, .nameAndType 507 334), (0, u "length"), (33, .methodref 107 542), (0, .nameAndType 543 544), (0, u "equals"), (0, u "([B[B)Z"), (4, .methodref 550 506), (0, .class_ 551), (0, u "java/lang/AbstractStringBuilder"), (0, .methodref 550 553), (0, .nameAndType 554 340), (0, u "getValue"), (18, u "(Ljava/lang/Object;)Z"), (1, .class_ 576), (0, u "java/lang/CharSequence"), (22, u "CASE_INSENSITIVE_ORDER"), (0, u "Ljava/util/Comparator;"), (91, u "isEmpty"), (89, u "valueOf"), (0, u "(C)Ljava/lang/String;"), (226, u "([C)V"), (4, .methodref 107 1016), (0, .nameAndType 1017 369), (0, u "canEncode"), (0, .methodref 107 1019), (0, .nameAndType 53 1020), (0, u "(C)[B"), (26, .methodref 550 493), (53, u "serialPersistentFields"), (0, u "[Ljava/io/ObjectStreamField;"), (0, .class_ 1104), (0, u "java/lang/String$CaseInsensitiveComparator"), (1, .class_ 1107), (0, u "java/io/Serializable"), (0, .class_ 1109), (0, u "java/lang/Comparable"), (0, .class_ 1111), (0, u "java/lang/constant/Constable"), (0, .class_ 1113), (0, u "java/lang/constant/ConstantDesc"), (2, u "serialVersionUID"), (0, u "J"), (3, u "REPL"), (0, u "C"), (2, u "LATIN1"), (1, u "UTF16"), (105, u "(Ljava/lang/StringBuilder;)V")] 217

def k11m0 : Method := { name := "<init>", desc := "()V", sig := { parameters := [], returnType := none }, accessFlags := 1, code := none }
def k11c1 : Code := { maxStack := 5, maxLocals := 2, code := jdk_42_method_3_code, exceptionTable := #[], attributes := #[] }
def k11m1 : Method := { name := "<init>", desc := "([C)V", sig := { parameters := [(.array .char)], returnType := none }, accessFlags := 1, code := some k11c1 }
def k11c2 : Code := { maxStack := 3, maxLocals := 2, code := jdk_42_method_53_code, exceptionTable := #[], attributes := #[] }
def k11m2 : Method := { name := "<init>", desc := "(Ljava/lang/StringBuilder;)V", sig := { parameters := [(.object "java/lang/StringBuilder")], returnType := none }, accessFlags := 1, code := some k11c2 }
def k11c3 : Code := { maxStack := 1, maxLocals := 1, code := jdk_42_method_55_code, exceptionTable := #[], attributes := #[] }
def k11m3 : Method := { name := "isEmpty", desc := "()Z", sig := { parameters := [], returnType := some .boolean }, accessFlags := 1, code := some k11c3 }
def k11c4 : Code := { maxStack := 2, maxLocals := 3, code := jdk_42_method_66_code, exceptionTable := #[], attributes := #[] }
def k11m4 : Method := { name := "equals", desc := "(Ljava/lang/Object;)Z", sig := { parameters := [(.object "java/lang/Object")], returnType := some .boolean }, accessFlags := 1, code := some k11c4 }
def k11c5 : Code := { maxStack := 4, maxLocals := 1, code := jdk_42_method_139_code, exceptionTable := #[], attributes := #[] }
def k11m5 : Method := { name := "valueOf", desc := "(C)Ljava/lang/String;", sig := { parameters := [.char], returnType := some (.object "java/lang/String") }, accessFlags := 9, code := some k11c5 }
def k11c6 : Code := { maxStack := 4, maxLocals := 6, code := jdk_42_method_149_code, exceptionTable := #[], attributes := #[] }
def k11m6 : Method := { name := "<init>", desc := "([CIILjava/lang/Void;)V", sig := { parameters := [(.array .char), .int, .int, (.object "java/lang/Void")], returnType := none }, accessFlags := 2, code := some k11c6 }
def k11c7 : Code := { maxStack := 5, maxLocals := 5, code := jdk_42_method_150_code, exceptionTable := #[], attributes := #[] }
def k11m7 : Method := { name := "<init>", desc := "(Ljava/lang/AbstractStringBuilder;Ljava/lang/Void;)V", sig := { parameters := [(.object "java/lang/AbstractStringBuilder"), (.object "java/lang/Void")], returnType := none }, accessFlags := 0, code := some k11c7 }
def k11c8 : Code := { maxStack := 2, maxLocals := 3, code := jdk_42_method_151_code, exceptionTable := #[], attributes := #[] }
def k11m8 : Method := { name := "<init>", desc := "([BB)V", sig := { parameters := [(.array .byte), .byte], returnType := none }, accessFlags := 0, code := some k11c8 }
/-- java/lang/String -/
def k11 : Class := { plain "java/lang/String" (some 0) with
  accessFlags := 49
  interfaces := #[6, 7, 4, 9, 10]
  cf := some (fileOf pool11 10 #[.nestMembers #[1103]] #[{ accessFlags := 1, nameIndex := 5, descriptorIndex := 6, attributes := #[] }, { accessFlags := 1, nameIndex := 5, descriptorIndex := 1010, attributes := #[] }, { accessFlags := 1, nameIndex := 5, descriptorIndex := 1233, attributes := #[] }, { accessFlags := 1, nameIndex := 692, descriptorIndex := 142, attributes := #[] }, { accessFlags := 1, nameIndex := 543, descriptorIndex := 573, attributes := #[] }, { accessFlags := 9, nameIndex := 782, descriptorIndex := 783, attributes := #[] }, { accessFlags := 2, nameIndex := 5, descriptorIndex := 29, attributes := #[] }, { accessFlags := 0, nameIndex := 5, descriptorIndex := 491, attributes := #[] }, { accessFlags := 0, nameIndex := 5, descriptorIndex := 211, attributes := #[] }] 49 2 #[1106, 1108, 575, 1110, 1112] #[{ accessFlags := 18, nameIndex := 13, descriptorIndex := 14, attributes := #[] }, { accessFlags := 18, nameIndex := 17, descriptorIndex := 18, attributes := #[] }, { accessFlags := 2, nameIndex := 21, descriptorIndex := 22, attributes := #[] }, { accessFlags := 2, nameIndex := 25, descriptorIndex := 26, attributes := #[] }, { accessFlags := 26, nameIndex := 1116, descriptorIndex := 1117, attributes := #[] }, { accessFlags := 24, nameIndex := 40, descriptorIndex := 26, attributes := #[] }, { accessFlags := 26, nameIndex := 1101, descriptorIndex := 1102, attributes := #[] }, { accessFlags := 26, nameIndex := 1121, descriptorIndex := 1122, attributes := #[] }, { accessFlags := 25, nameIndex := 599, descriptorIndex := 600, attributes := #[] }, { accessFlags := 24, nameIndex := 1125, descriptorIndex := 18, attributes := #[] }, { accessFlags := 24, nameIndex := 1127, descriptorIndex := 18, attributes := #[] }])
  fields := #[{ name := "value", type := (.array .byte), accessFlags := 18, slot := 0, constantValue := 0 }, { name := "coder", type := .byte, accessFlags := 18, slot := 1, constantValue := 0 }, { name := "hash", type := .int, accessFlags := 2, slot := 2, constantValue := 0 }, { name := "hashIsZero", type := .boolean, accessFlags := 2, slot := 3, constantValue := 0 }, { name := "serialVersionUID", type := .long, accessFlags := 26, slot := 0, constantValue := 0 }, { name := "COMPACT_STRINGS", type := .boolean, accessFlags := 24, slot := 1, constantValue := 0 }, { name := "serialPersistentFields", type := (.array (.object "java/io/ObjectStreamField")), accessFlags := 26, slot := 2, constantValue := 0 }, { name := "REPL", type := .char, accessFlags := 26, slot := 3, constantValue := 0 }, { name := "CASE_INSENSITIVE_ORDER", type := (.object "java/util/Comparator"), accessFlags := 25, slot := 4, constantValue := 0 }, { name := "LATIN1", type := .byte, accessFlags := 24, slot := 5, constantValue := 0 }, { name := "UTF16", type := .byte, accessFlags := 24, slot := 6, constantValue := 0 }]
  methods := #[k11m0, k11m1, k11m2, k11m3, k11m4, k11m5, k11m6, k11m7, k11m8]
  instanceTypes := #[(.array .byte), .byte, .int, .boolean]
  staticTypes := #[.long, .boolean, (.array (.object "java/io/ObjectStreamField")), .char, (.object "java/util/Comparator"), .byte, .byte]
  resolved := Array.replicate 1451 none
  statics := some 0 }

def pool12 : Array CpInfo := pool [(2, .class_ 4), (1, u "java/lang/Object"), (0, u "<init>"), (0, u "()V"), (7, .class_ 16), (1, u "java/util/Arrays"), (57, .class_ 76), (1, u "java/util/Arrays$NaturalOrder"), (36, .class_ 115), (1, u "java/util/Arrays$LegacyMergeSort"), (1, u "Z"), (21, u "copyOfRange"), (10, .methodref 151 152), (0, .class_ 153), (0, .nameAndType 154 155), (0, u "java/lang/System"), (0, u "arraycopy"), (0, u "(Ljava/lang/Object;ILjava/lang/Object;II)V"), (148, .methodref 305 306), (0, .class_ 307), (0, .nameAndType 308 309), (0, u "java/lang/Math"), (0, u "min"), (0, u "(II)I"), (29, .methodref 14 340), (0, .nameAndType 341 342), (0, u "copyOfRangeByte"), (0, u "([BII)[B"), (0, .methodref 14 344), (0, .nameAndType 345 346), (0, u "checkLength"), (0, u "(II)V"), (28, .class_ 376), (0, u "java/util/Arrays$ArrayList"), (68, u "$assertionsDisabled"), (269, u "MIN_ARRAY_SORT_GRAN"), (0, u "I"), (2, u "INSERTIONSORT_THRESHOLD"), (255, .class_ 976), (0, u "java/util/Arrays$ArrayItr")] 52

def k12m0 : Method := { name := "<init>", desc := "()V", sig := { parameters := [], returnType := none }, accessFlags := 2, code := none }
def k12c1 : Code := { maxStack := 4, maxLocals := 2, code := jdk_65_method_131_code, exceptionTable := #[], attributes := #[] }
def k12m1 : Method := { name := "checkLength", desc := "(II)V", sig := { parameters := [.int, .int], returnType := none }, accessFlags := 10, code := some k12c1 }
def k12c2 : Code := { maxStack := 3, maxLocals := 3, code := jdk_65_method_132_code, exceptionTable := #[], attributes := #[] }
def k12m2 : Method := { name := "copyOfRange", desc := "([BII)[B", sig := { parameters := [(.array .byte), .int, .int], returnType := some (.array .byte) }, accessFlags := 9, code := some k12c2 }
def k12c3 : Code := { maxStack := 6, maxLocals := 5, code := jdk_65_method_133_code, exceptionTable := #[], attributes := #[] }
def k12m3 : Method := { name := "copyOfRangeByte", desc := "([BII)[B", sig := { parameters := [(.array .byte), .int, .int], returnType := some (.array .byte) }, accessFlags := 10, code := some k12c3 }
/-- java/util/Arrays -/
def k12 : Class := { plain "java/util/Arrays" (some 0) with
  accessFlags := 49
  interfaces := #[]
  cf := some (fileOf pool12 14 #[.nestMembers #[975, 375, 113, 74]] #[{ accessFlags := 2, nameIndex := 5, descriptorIndex := 6, attributes := #[] }, { accessFlags := 10, nameIndex := 345, descriptorIndex := 346, attributes := #[] }, { accessFlags := 9, nameIndex := 139, descriptorIndex := 342, attributes := #[] }, { accessFlags := 10, nameIndex := 341, descriptorIndex := 342, attributes := #[] }] 49 2 #[] #[{ accessFlags := 26, nameIndex := 715, descriptorIndex := 716, attributes := #[] }, { accessFlags := 26, nameIndex := 719, descriptorIndex := 716, attributes := #[] }, { accessFlags := 4120, nameIndex := 445, descriptorIndex := 117, attributes := #[] }])
  fields := #[{ name := "MIN_ARRAY_SORT_GRAN", type := .int, accessFlags := 26, slot := 0, constantValue := 0 }, { name := "INSERTIONSORT_THRESHOLD", type := .int, accessFlags := 26, slot := 1, constantValue := 0 }, { name := "$assertionsDisabled", type := .boolean, accessFlags := 4120, slot := 2, constantValue := 0 }]
  methods := #[k12m0, k12m1, k12m2, k12m3]
  instanceTypes := #[]
  staticTypes := #[.int, .int, .boolean]
  resolved := Array.replicate 1029 none
  statics := none }

def pool13 : Array CpInfo := pool [(1, .class_ 2), (0, u "java/lang/Math"), (1, .class_ 6), (1, u "java/lang/Object"), (0, u "<init>"), (0, u "()V"), (89, .class_ 100), (1, u "java/lang/Math$RandomNumberGeneratorHolder"), (71, u "negativeZeroFloatBits"), (0, u "J"), (2, u "negativeZeroDoubleBits"), (24, u "min"), (43, u "$assertionsDisabled"), (0, u "Z"), (88, u "(II)I"), (2, u "twoToTheDoubleScaleDown"), (0, u "D"), (4, u "twoToTheDoubleScaleUp"), (9, u "E"), (3, u "PI"), (2, u "TAU"), (2, u "DEGREES_TO_RADIANS"), (0, u "RADIANS_TO_DEGREES")] 94

def k13m0 : Method := { name := "<init>", desc := "()V", sig := { parameters := [], returnType := none }, accessFlags := 2, code := none }
def k13c1 : Code := { maxStack := 2, maxLocals := 2, code := jdk_29_method_69_code, exceptionTable := #[], attributes := #[] }
def k13m1 : Method := { name := "min", desc := "(II)I", sig := { parameters := [.int, .int], returnType := some .int }, accessFlags := 9, code := some k13c1 }
/-- java/lang/Math -/
def k13 : Class := { plain "java/lang/Math" (some 0) with
  accessFlags := 49
  interfaces := #[]
  cf := some (fileOf pool13 1 #[.nestMembers #[98]] #[{ accessFlags := 2, nameIndex := 7, descriptorIndex := 8, attributes := #[] }, { accessFlags := 9, nameIndex := 201, descriptorIndex := 335, attributes := #[] }] 49 4 #[] #[{ accessFlags := 25, nameIndex := 354, descriptorIndex := 339, attributes := #[] }, { accessFlags := 25, nameIndex := 358, descriptorIndex := 339, attributes := #[] }, { accessFlags := 25, nameIndex := 361, descriptorIndex := 339, attributes := #[] }, { accessFlags := 26, nameIndex := 364, descriptorIndex := 339, attributes := #[] }, { accessFlags := 26, nameIndex := 365, descriptorIndex := 339, attributes := #[] }, { accessFlags := 26, nameIndex := 172, descriptorIndex := 173, attributes := #[] }, { accessFlags := 26, nameIndex := 176, descriptorIndex := 173, attributes := #[] }, { accessFlags := 8, nameIndex := 344, descriptorIndex := 339, attributes := #[] }, { accessFlags := 8, nameIndex := 338, descriptorIndex := 339, attributes := #[] }, { accessFlags := 4120, nameIndex := 245, descriptorIndex := 246, attributes := #[] }])
  fields := #[{ name := "E", type := .double, accessFlags := 25, slot := 0, constantValue := 0 }, { name := "PI", type := .double, accessFlags := 25, slot := 1, constantValue := 0 }, { name := "TAU", type := .double, accessFlags := 25, slot := 2, constantValue := 0 }, { name := "DEGREES_TO_RADIANS", type := .double, accessFlags := 26, slot := 3, constantValue := 0 }, { name := "RADIANS_TO_DEGREES", type := .double, accessFlags := 26, slot := 4, constantValue := 0 }, { name := "negativeZeroFloatBits", type := .long, accessFlags := 26, slot := 5, constantValue := 0 }, { name := "negativeZeroDoubleBits", type := .long, accessFlags := 26, slot := 6, constantValue := 0 }, { name := "twoToTheDoubleScaleUp", type := .double, accessFlags := 8, slot := 7, constantValue := 0 }, { name := "twoToTheDoubleScaleDown", type := .double, accessFlags := 8, slot := 8, constantValue := 0 }, { name := "$assertionsDisabled", type := .boolean, accessFlags := 4120, slot := 9, constantValue := 0 }]
  methods := #[k13m0, k13m1]
  instanceTypes := #[]
  staticTypes := #[.double, .double, .double, .double, .double, .long, .long, .double, .double, .boolean]
  resolved := Array.replicate 460 none
  statics := none }

def pool14 : Array CpInfo := pool [(2, .class_ 4), (1, u "java/lang/Object"), (0, u "<init>"), (0, u "()V"), (1, .class_ 10), (1, u "java/lang/System"), (0, u "allowSecurityManager"), (0, u "I"), (16, u "cons"), (0, u "Ljava/io/Console;"), (77, .class_ 110), (1, u "java/lang/System$CallersHolder"), (43, u "initialErrStream"), (0, u "Ljava/io/PrintStream;"), (19, u "security"), (0, u "Ljava/lang/SecurityManager;"), (31, .class_ 209), (0, u "java/lang/System$1"), (7, u "props"), (0, u "Ljava/util/Properties;"), (2, u "lineSeparator"), (0, u "Ljava/lang/String;"), (96, .class_ 321), (1, u "java/lang/System$LoggerFinder"), (5, .class_ 328), (0, u "java/lang/System$Logger"), (67, u "err"), (2, u "out"), (91, u "notSupportedJnuEncoding"), (15, u "in"), (17, u "initialIn"), (0, u "Ljava/io/InputStream;"), (35, u "bootLayer"), (0, u "Ljava/lang/ModuleLayer;"), (99, .class_ 664), (0, u "java/lang/System$2"), (9, u "NEVER"), (2, u "MAYBE"), (49, u "arraycopy"), (0, u "(Ljava/lang/Object;ILjava/lang/Object;II)V"), (72, .class_ 802), (0, u "java/lang/System$Logger$Level")] 31

def k14m0 : Method := { name := "<init>", desc := "()V", sig := { parameters := [], returnType := none }, accessFlags := 2, code := none }
def k14m1 : Method := { name := "arraycopy", desc := "(Ljava/lang/Object;ILjava/lang/Object;II)V", sig := { parameters := [(.object "java/lang/Object"), .int, (.object "java/lang/Object"), .int, .int], returnType := none }, accessFlags := 265, code := none }
/-- java/lang/System -/
def k14 : Class := { plain "java/lang/System" (some 0) with
  accessFlags := 49
  interfaces := #[]
  cf := some (fileOf pool14 8 #[.nestMembers #[319, 327, 801, 108, 663, 208]] #[{ accessFlags := 2, nameIndex := 5, descriptorIndex := 6, attributes := #[] }, { accessFlags := 265, nameIndex := 727, descriptorIndex := 728, attributes := #[] }] 49 2 #[] #[{ accessFlags := 25, nameIndex := 507, descriptorIndex := 526, attributes := #[] }, { accessFlags := 25, nameIndex := 399, descriptorIndex := 155, attributes := #[] }, { accessFlags := 25, nameIndex := 396, descriptorIndex := 155, attributes := #[] }, { accessFlags := 10, nameIndex := 525, descriptorIndex := 526, attributes := #[] }, { accessFlags := 26, nameIndex := 674, descriptorIndex := 12, attributes := #[] }, { accessFlags := 26, nameIndex := 677, descriptorIndex := 12, attributes := #[] }, { accessFlags := 10, nameIndex := 11, descriptorIndex := 12, attributes := #[] }, { accessFlags := 74, nameIndex := 175, descriptorIndex := 176, attributes := #[] }, { accessFlags := 10, nameIndex := 491, descriptorIndex := 222, attributes := #[] }, { accessFlags := 74, nameIndex := 29, descriptorIndex := 30, attributes := #[] }, { accessFlags := 74, nameIndex := 154, descriptorIndex := 155, attributes := #[] }, { accessFlags := 10, nameIndex := 217, descriptorIndex := 218, attributes := #[] }, { accessFlags := 10, nameIndex := 221, descriptorIndex := 222, attributes := #[] }, { accessFlags := 8, nameIndex := 562, descriptorIndex := 563, attributes := #[] }])
  fields := #[{ name := "in", type := (.object "java/io/InputStream"), accessFlags := 25, slot := 0, constantValue := 0 }, { name := "out", type := (.object "java/io/PrintStream"), accessFlags := 25, slot := 1, constantValue := 0 }, { name := "err", type := (.object "java/io/PrintStream"), accessFlags := 25, slot := 2, constantValue := 0 }, { name := "initialIn", type := (.object "java/io/InputStream"), accessFlags := 10, slot := 3, constantValue := 0 }, { name := "NEVER", type := .int, accessFlags := 26, slot := 4, constantValue := 0 }, { name := "MAYBE", type := .int, accessFlags := 26, slot := 5, constantValue := 0 }, { name := "allowSecurityManager", type := .int, accessFlags := 10, slot := 6, constantValue := 0 }, { name := "security", type := (.object "java/lang/SecurityManager"), accessFlags := 74, slot := 7, constantValue := 0 }, { name := "notSupportedJnuEncoding", type := (.object "java/lang/String"), accessFlags := 10, slot := 8, constantValue := 0 }, { name := "cons", type := (.object "java/io/Console"), accessFlags := 74, slot := 9, constantValue := 0 }, { name := "initialErrStream", type := (.object "java/io/PrintStream"), accessFlags := 74, slot := 10, constantValue := 0 }, { name := "props", type := (.object "java/util/Properties"), accessFlags := 10, slot := 11, constantValue := 0 }, { name := "lineSeparator", type := (.object "java/lang/String"), accessFlags := 10, slot := 12, constantValue := 0 }, { name := "bootLayer", type := (.object "java/lang/ModuleLayer"), accessFlags := 8, slot := 13, constantValue := 0 }]
  methods := #[k14m0, k14m1]
  instanceTypes := #[]
  staticTypes := #[(.object "java/io/InputStream"), (.object "java/io/PrintStream"), (.object "java/io/PrintStream"), (.object "java/io/InputStream"), .int, .int, .int, (.object "java/lang/SecurityManager"), (.object "java/lang/String"), (.object "java/io/Console"), (.object "java/io/PrintStream"), (.object "java/util/Properties"), (.object "java/lang/String"), (.object "java/lang/ModuleLayer")]
  resolved := Array.replicate 834 none
  statics := none }

def pool15 : Array CpInfo := pool [(4, .class_ 6), (1, u "java/lang/Object"), (0, u "<init>"), (0, u "()V"), (5, .class_ 16), (1, u "java/lang/StringLatin1"), (73, u "canEncode"), (14, u "(C)Z"), (15, u "$assertionsDisabled"), (0, u "Z"), (98, .class_ 223), (1, u "java/lang/StringLatin1$LinesSpliterator"), (57, u "equals"), (0, u "([B[B)Z"), (97, u "toBytes"), (1, u "(C)[B"), (7, .class_ 391), (0, u "java/lang/StringLatin1$CharsSpliterator")] 3

def k15m0 : Method := { name := "<init>", desc := "()V", sig := { parameters := [], returnType := none }, accessFlags := 0, code := none }
def k15c1 : Code := { maxStack := 2, maxLocals := 1, code := jdk_43_method_3_code, exceptionTable := #[], attributes := #[] }
def k15m1 : Method := { name := "canEncode", desc := "(C)Z", sig := { parameters := [.char], returnType := some .boolean }, accessFlags := 9, code := some k15c1 }
def k15c2 : Code := { maxStack := 3, maxLocals := 3, code := jdk_43_method_13_code, exceptionTable := #[], attributes := #[] }
def k15m2 : Method := { name := "equals", desc := "([B[B)Z", sig := { parameters := [(.array .byte), (.array .byte)], returnType := some .boolean }, accessFlags := 9, code := some k15c2 }
def k15c3 : Code := { maxStack := 4, maxLocals := 1, code := jdk_43_method_46_code, exceptionTable := #[], attributes := #[] }
def k15m3 : Method := { name := "toBytes", desc := "(C)[B", sig := { parameters := [.char], returnType := some (.array .byte) }, accessFlags := 9, code := some k15c3 }
/-- java/lang/StringLatin1 -/
def k15 : Class := { plain "java/lang/StringLatin1" (some 0) with
  accessFlags := 48
  interfaces := #[]
  cf := some (fileOf pool15 14 #[.nestMembers #[390, 221]] #[{ accessFlags := 0, nameIndex := 7, descriptorIndex := 8, attributes := #[] }, { accessFlags := 9, nameIndex := 90, descriptorIndex := 105, attributes := #[] }, { accessFlags := 9, nameIndex := 281, descriptorIndex := 282, attributes := #[] }, { accessFlags := 9, nameIndex := 380, descriptorIndex := 382, attributes := #[] }] 48 4 #[] #[{ accessFlags := 4120, nameIndex := 121, descriptorIndex := 122, attributes := #[] }])
  fields := #[{ name := "$assertionsDisabled", type := .boolean, accessFlags := 4120, slot := 0, constantValue := 0 }]
  methods := #[k15m0, k15m1, k15m2, k15m3]
  instanceTypes := #[]
  staticTypes := #[.boolean]
  resolved := Array.replicate 395 none
  statics := none }

def pool16 : Array CpInfo := pool [(2, .class_ 4), (1, u "java/lang/Object"), (0, u "<init>"), (0, u "()V"), (1, .class_ 10), (1, u "java/lang/Number"), (2, .class_ 14), (0, u "java/io/Serializable"), (0, u "serialVersionUID"), (0, u "J")] 20

def k16m0 : Method := { name := "<init>", desc := "()V", sig := { parameters := [], returnType := none }, accessFlags := 1, code := none }
/-- java/lang/Number -/
def k16 : Class := { plain "java/lang/Number" (some 0) with
  accessFlags := 1057
  interfaces := #[6]
  cf := some (fileOf pool16 8 #[] #[{ accessFlags := 1, nameIndex := 5, descriptorIndex := 6, attributes := #[] }] 1057 2 #[13] #[{ accessFlags := 26, nameIndex := 15, descriptorIndex := 16, attributes := #[] }])
  fields := #[{ name := "serialVersionUID", type := .long, accessFlags := 26, slot := 0, constantValue := 0 }]
  methods := #[k16m0]
  instanceTypes := #[]
  staticTypes := #[.long]
  resolved := Array.replicate 37 none
  statics := none }

def pool17 : Array CpInfo := pool [(1, .class_ 2), (0, u "java/lang/Long"), (15, .class_ 20), (1, u "java/lang/Integer"), (80, u "(J)I"), (18, u "stringSize"), (2, u "getChars"), (0, u "(JI[B)I"), (4, .long 18446744071562067968), (3, .fieldref 18 134), (0, .nameAndType 135 136), (0, u "DigitOnes"), (0, u "[B"), (3, .long 18446744073709551606), (94, .class_ 237), (1, u "java/lang/Long$LongCache"), (33, .class_ 272), (0, u "java/lang/Number"), (2, u "value"), (0, u "J"), (84, u "TYPE"), (0, u "Ljava/lang/Class;"), (0, .class_ 364), (0, u "java/lang/Comparable"), (0, .class_ 366), (0, u "java/lang/constant/Constable"), (0, .class_ 368), (0, u "java/lang/constant/ConstantDesc"), (0, u "MIN_VALUE"), (1, u "MAX_VALUE"), (4, u "SIZE"), (0, u "I"), (1, u "BYTES"), (1, u "serialVersionUID")] 142

def k17c0 : Code := { maxStack := 4, maxLocals := 11, code := jdk_35_method_14_code, exceptionTable := #[], attributes := #[] }
def k17m0 : Method := { name := "getChars", desc := "(JI[B)I", sig := { parameters := [.long, .int, (.array .byte)], returnType := some .int }, accessFlags := 8, code := some k17c0 }
def k17c1 : Code := { maxStack := 4, maxLocals := 6, code := jdk_35_method_15_code, exceptionTable := #[], attributes := #[] }
def k17m1 : Method := { name := "stringSize", desc := "(J)I", sig := { parameters := [.long], returnType := some .int }, accessFlags := 8, code := some k17c1 }
/-- java/lang/Long -/
def k17 : Class := { plain "java/lang/Long" (some 16) with
  accessFlags := 49
  interfaces := #[7, 9, 10]
  cf := some (fileOf pool17 1 #[.nestMembers #[235]] #[{ accessFlags := 8, nameIndex := 123, descriptorIndex := 124, attributes := #[] }, { accessFlags := 8, nameIndex := 120, descriptorIndex := 101, attributes := #[] }] 49 271 #[363, 365, 367] #[{ accessFlags := 25, nameIndex := 369, descriptorIndex := 276, attributes := #[] }, { accessFlags := 25, nameIndex := 371, descriptorIndex := 276, attributes := #[] }, { accessFlags := 25, nameIndex := 361, descriptorIndex := 362, attributes := #[] }, { accessFlags := 18, nameIndex := 275, descriptorIndex := 276, attributes := #[] }, { accessFlags := 25, nameIndex := 376, descriptorIndex := 377, attributes := #[] }, { accessFlags := 25, nameIndex := 379, descriptorIndex := 377, attributes := #[] }, { accessFlags := 26, nameIndex := 381, descriptorIndex := 276, attributes := #[] }])
  fields := #[{ name := "MIN_VALUE", type := .long, accessFlags := 25, slot := 0, constantValue := 0 }, { name := "MAX_VALUE", type := .long, accessFlags := 25, slot := 1, constantValue := 0 }, { name := "TYPE", type := (.object "java/lang/Class"), accessFlags := 25, slot := 2, constantValue := 0 }, { name := "value", type := .long, accessFlags := 18, slot := 0, constantValue := 0 }, { name := "SIZE", type := .int, accessFlags := 25, slot := 3, constantValue := 0 }, { name := "BYTES", type := .int, accessFlags := 25, slot := 4, constantValue := 0 }, { name := "serialVersionUID", type := .long, accessFlags := 26, slot := 5, constantValue := 0 }]
  methods := #[k17m0, k17m1]
  instanceTypes := #[.long]
  staticTypes := #[.long, .long, (.object "java/lang/Class"), .int, .int, .long]
  resolved := Array.replicate 524 none
  statics := none }

def pool18 : Array CpInfo := pool [(1, .class_ 2), (0, u "java/lang/Integer"), (16, u "digits"), (0, u "[C"), (64, u "DigitOnes"), (0, u "[B"), (2, u "DigitTens"), (99, .class_ 190), (0, u "java/lang/Integer$IntegerCache"), (3, u "I"), (8, .class_ 204), (0, u "java/lang/Number"), (2, u "value"), (94, u "TYPE"), (0, u "Ljava/lang/Class;"), (0, .class_ 305), (0, u "java/lang/Comparable"), (0, .class_ 307), (0, u "java/lang/constant/Constable"), (0, .class_ 309), (0, u "java/lang/constant/ConstantDesc"), (0, u "MIN_VALUE"), (1, u "MAX_VALUE"), (3, u "SIZE"), (1, u "BYTES"), (1, u "serialVersionUID"), (0, u "J")] 131

/-- java/lang/Integer -/
def k18 : Class := { plain "java/lang/Integer" (some 16) with
  accessFlags := 49
  interfaces := #[7, 9, 10]
  cf := some (fileOf pool18 1 #[.nestMembers #[189]] #[] 49 203 #[304, 306, 308] #[{ accessFlags := 25, nameIndex := 310, descriptorIndex := 194, attributes := #[] }, { accessFlags := 25, nameIndex := 312, descriptorIndex := 194, attributes := #[] }, { accessFlags := 25, nameIndex := 302, descriptorIndex := 303, attributes := #[] }, { accessFlags := 24, nameIndex := 19, descriptorIndex := 20, attributes := #[] }, { accessFlags := 24, nameIndex := 89, descriptorIndex := 86, attributes := #[] }, { accessFlags := 24, nameIndex := 85, descriptorIndex := 86, attributes := #[] }, { accessFlags := 18, nameIndex := 207, descriptorIndex := 194, attributes := #[] }, { accessFlags := 25, nameIndex := 316, descriptorIndex := 194, attributes := #[] }, { accessFlags := 25, nameIndex := 318, descriptorIndex := 194, attributes := #[] }, { accessFlags := 26, nameIndex := 320, descriptorIndex := 321, attributes := #[] }])
  fields := #[{ name := "MIN_VALUE", type := .int, accessFlags := 25, slot := 0, constantValue := 0 }, { name := "MAX_VALUE", type := .int, accessFlags := 25, slot := 1, constantValue := 0 }, { name := "TYPE", type := (.object "java/lang/Class"), accessFlags := 25, slot := 2, constantValue := 0 }, { name := "digits", type := (.array .char), accessFlags := 24, slot := 3, constantValue := 0 }, { name := "DigitTens", type := (.array .byte), accessFlags := 24, slot := 4, constantValue := 0 }, { name := "DigitOnes", type := (.array .byte), accessFlags := 24, slot := 5, constantValue := 0 }, { name := "value", type := .int, accessFlags := 18, slot := 0, constantValue := 0 }, { name := "SIZE", type := .int, accessFlags := 25, slot := 6, constantValue := 0 }, { name := "BYTES", type := .int, accessFlags := 25, slot := 7, constantValue := 0 }, { name := "serialVersionUID", type := .long, accessFlags := 26, slot := 8, constantValue := 0 }]
  methods := #[]
  instanceTypes := #[.int]
  staticTypes := #[.int, .int, (.object "java/lang/Class"), (.array .char), (.array .byte), (.array .byte), .int, .int, .long]
  resolved := Array.replicate 453 none
  statics := some 1 }

def pool19 : Array CpInfo := pool [(6, .class_ 8), (1, u "java/lang/Object"), (0, u "<init>"), (0, u "()V"), (1, .class_ 14), (1, u "java/lang/StringUTF16"), (31, u "$assertionsDisabled"), (0, u "Z"), (13, u "HI_BYTE_SHIFT"), (0, u "I"), (2, u "LO_BYTE_SHIFT"), (49, .methodref 12 116), (0, .nameAndType 117 118), (0, u "compress"), (0, u "([CI[BII)I"), (3, u "([CII)[B"), (138, u "coderFromArrayLen"), (0, u "([BI)B"), (106, .class_ 371), (1, u "java/lang/StringUTF16$LinesSpliterator"), (58, u "MAX_LENGTH"), (196, .class_ 628), (0, u "java/lang/StringUTF16$CodePointsSpliterator"), (0, .class_ 630), (0, u "java/lang/StringUTF16$CharsSpliterator")] 4

def k19m0 : Method := { name := "<init>", desc := "()V", sig := { parameters := [], returnType := none }, accessFlags := 0, code := none }
def k19c1 : Code := { maxStack := 2, maxLocals := 2, code := jdk_52_method_15_code, exceptionTable := #[], attributes := #[] }
def k19m1 : Method := { name := "coderFromArrayLen", desc := "([BI)B", sig := { parameters := [(.array .byte), .int], returnType := some .byte }, accessFlags := 8, code := some k19c1 }
def k19c2 : Code := { maxStack := 5, maxLocals := 6, code := jdk_52_method_16_code, exceptionTable := #[], attributes := #[] }
def k19m2 : Method := { name := "compress", desc := "([CII)[B", sig := { parameters := [(.array .char), .int, .int], returnType := some (.array .byte) }, accessFlags := 9, code := some k19c2 }
def k19c3 : Code := { maxStack := 3, maxLocals := 7, code := jdk_52_method_21_code, exceptionTable := #[], attributes := #[] }
def k19m3 : Method := { name := "compress", desc := "([CI[BII)I", sig := { parameters := [(.array .char), .int, (.array .byte), .int, .int], returnType := some .int }, accessFlags := 9, code := some k19c3 }
/-- java/lang/StringUTF16 -/
def k19 : Class := { plain "java/lang/StringUTF16" (some 0) with
  accessFlags := 48
  interfaces := #[]
  cf := some (fileOf pool19 12 #[.nestMembers #[627, 629, 369]] #[{ accessFlags := 0, nameIndex := 9, descriptorIndex := 10, attributes := #[] }, { accessFlags := 8, nameIndex := 261, descriptorIndex := 262, attributes := #[] }, { accessFlags := 9, nameIndex := 117, descriptorIndex := 122, attributes := #[] }, { accessFlags := 9, nameIndex := 117, descriptorIndex := 118, attributes := #[] }] 48 6 #[] #[{ accessFlags := 26, nameIndex := 61, descriptorIndex := 62, attributes := #[] }, { accessFlags := 26, nameIndex := 65, descriptorIndex := 62, attributes := #[] }, { accessFlags := 24, nameIndex := 430, descriptorIndex := 62, attributes := #[] }, { accessFlags := 4120, nameIndex := 46, descriptorIndex := 47, attributes := #[] }])
  fields := #[{ name := "HI_BYTE_SHIFT", type := .int, accessFlags := 26, slot := 0, constantValue := 0 }, { name := "LO_BYTE_SHIFT", type := .int, accessFlags := 26, slot := 1, constantValue := 0 }, { name := "MAX_LENGTH", type := .int, accessFlags := 24, slot := 2, constantValue := 0 }, { name := "$assertionsDisabled", type := .boolean, accessFlags := 4120, slot := 3, constantValue := 0 }]
  methods := #[k19m0, k19m1, k19m2, k19m3]
  instanceTypes := #[]
  staticTypes := #[.int, .int, .int, .boolean]
  resolved := Array.replicate 635 none
  statics := none }

def pool20 : Array CpInfo := pool [(2, .class_ 4), (1, u "java/lang/Object"), (0, u "<init>"), (0, u "()V"), (17, .class_ 26), (1, u "jdk/internal/util/Preconditions"), (28, .class_ 56), (0, u "jdk/internal/util/Preconditions$4"), (57, .class_ 115), (0, u "jdk/internal/util/Preconditions$1"), (7, u "SIOOBE_FORMATTER"), (0, u "Ljava/util/function/BiFunction;"), (0, .class_ 126), (0, u "jdk/internal/util/Preconditions$2"), (3, u "AIOOBE_FORMATTER"), (0, .class_ 132), (0, u "jdk/internal/util/Preconditions$3"), (3, u "IOOBE_FORMATTER")] 57

def k20m0 : Method := { name := "<init>", desc := "()V", sig := { parameters := [], returnType := none }, accessFlags := 1, code := none }
/-- jdk/internal/util/Preconditions -/
def k20 : Class := { plain "jdk/internal/util/Preconditions" (some 0) with
  accessFlags := 33
  interfaces := #[]
  cf := some (fileOf pool20 24 #[.nestMembers #[55, 131, 125, 114]] #[{ accessFlags := 1, nameIndex := 5, descriptorIndex := 6, attributes := #[] }] 33 2 #[] #[{ accessFlags := 25, nameIndex := 123, descriptorIndex := 124, attributes := #[] }, { accessFlags := 25, nameIndex := 130, descriptorIndex := 124, attributes := #[] }, { accessFlags := 25, nameIndex := 136, descriptorIndex := 124, attributes := #[] }])
  fields := #[{ name := "SIOOBE_FORMATTER", type := (.object "java/util/function/BiFunction"), accessFlags := 25, slot := 0, constantValue := 0 }, { name := "AIOOBE_FORMATTER", type := (.object "java/util/function/BiFunction"), accessFlags := 25, slot := 1, constantValue := 0 }, { name := "IOOBE_FORMATTER", type := (.object "java/util/function/BiFunction"), accessFlags := 25, slot := 2, constantValue := 0 }]
  methods := #[k20m0]
  instanceTypes := #[]
  staticTypes := #[(.object "java/util/function/BiFunction"), (.object "java/util/function/BiFunction"), (.object "java/util/function/BiFunction")]
  resolved := Array.replicate 194 none
  statics := some 2 }

def pool21 : Array CpInfo := pool [(9, u "<init>"), (6, .class_ 18), (1, u "java/lang/Object"), (0, u "()V"), (1, .class_ 23), (1, u "jdk/internal/util/ArraysSupport"), (0, u "LOG2_ARRAY_LONG_INDEX_SCALE"), (0, u "I"), (2, u "U"), (0, u "Ljdk/internal/misc/Unsafe;"), (8, u "BIG_ENDIAN"), (0, u "Z"), (8, u "LOG2_BYTE_BIT_SIZE"), (4, u "LOG2_ARRAY_INT_INDEX_SCALE"), (54, u "JLA"), (0, u "Ljdk/internal/access/JavaLangAccess;"), (11, u "LOG2_ARRAY_BOOLEAN_INDEX_SCALE"), (9, u "LOG2_ARRAY_BYTE_INDEX_SCALE"), (5, u "LOG2_ARRAY_CHAR_INDEX_SCALE"), (5, u "LOG2_ARRAY_SHORT_INDEX_SCALE"), (18, u "LOG2_ARRAY_FLOAT_INDEX_SCALE"), (24, u "LOG2_ARRAY_DOUBLE_INDEX_SCALE"), (89, u "T_BOOLEAN"), (2, u "T_CHAR"), (1, u "T_FLOAT"), (1, u "T_DOUBLE"), (1, u "T_BYTE"), (1, u "T_SHORT"), (1, u "T_INT"), (1, u "T_LONG"), (1, u "SOFT_MAX_ARRAY_LENGTH")] 83

def k21m0 : Method := { name := "<init>", desc := "()V", sig := { parameters := [], returnType := none }, accessFlags := 2, code := none }
/-- jdk/internal/util/ArraysSupport -/
def k21 : Class := { plain "jdk/internal/util/ArraysSupport" (some 0) with
  accessFlags := 33
  interfaces := #[]
  cf := some (fileOf pool21 21 #[] #[{ accessFlags := 2, nameIndex := 9, descriptorIndex := 19, attributes := #[] }] 33 16 #[] #[{ accessFlags := 24, nameIndex := 28, descriptorIndex := 29, attributes := #[] }, { accessFlags := 26, nameIndex := 38, descriptorIndex := 39, attributes := #[] }, { accessFlags := 25, nameIndex := 121, descriptorIndex := 25, attributes := #[] }, { accessFlags := 25, nameIndex := 131, descriptorIndex := 25, attributes := #[] }, { accessFlags := 25, nameIndex := 137, descriptorIndex := 25, attributes := #[] }, { accessFlags := 25, nameIndex := 143, descriptorIndex := 25, attributes := #[] }, { accessFlags := 25, nameIndex := 53, descriptorIndex := 25, attributes := #[] }, { accessFlags := 25, nameIndex := 24, descriptorIndex := 25, attributes := #[] }, { accessFlags := 25, nameIndex := 162, descriptorIndex := 25, attributes := #[] }, { accessFlags := 25, nameIndex := 187, descriptorIndex := 25, attributes := #[] }, { accessFlags := 26, nameIndex := 48, descriptorIndex := 25, attributes := #[] }, { accessFlags := 25, nameIndex := 277, descriptorIndex := 25, attributes := #[] }, { accessFlags := 25, nameIndex := 280, descriptorIndex := 25, attributes := #[] }, { accessFlags := 25, nameIndex := 282, descriptorIndex := 25, attributes := #[] }, { accessFlags := 25, nameIndex := 284, descriptorIndex := 25, attributes := #[] }, { accessFlags := 25, nameIndex := 286, descriptorIndex := 25, attributes := #[] }, { accessFlags := 25, nameIndex := 288, descriptorIndex := 25, attributes := #[] }, { accessFlags := 25, nameIndex := 290, descriptorIndex := 25, attributes := #[] }, { accessFlags := 25, nameIndex := 292, descriptorIndex := 25, attributes := #[] }, { accessFlags := 26, nameIndex := 108, descriptorIndex := 109, attributes := #[] }, { accessFlags := 25, nameIndex := 294, descriptorIndex := 25, attributes := #[] }])
  fields := #[{ name := "U", type := (.object "jdk/internal/misc/Unsafe"), accessFlags := 24, slot := 0, constantValue := 0 }, { name := "BIG_ENDIAN", type := .boolean, accessFlags := 26, slot := 1, constantValue := 0 }, { name := "LOG2_ARRAY_BOOLEAN_INDEX_SCALE", type := .int, accessFlags := 25, slot := 2, constantValue := 0 }, { name := "LOG2_ARRAY_BYTE_INDEX_SCALE", type := .int, accessFlags := 25, slot := 3, constantValue := 0 }, { name := "LOG2_ARRAY_CHAR_INDEX_SCALE", type := .int, accessFlags := 25, slot := 4, constantValue := 0 }, { name := "LOG2_ARRAY_SHORT_INDEX_SCALE", type := .int, accessFlags := 25, slot := 5, constantValue := 0 }, { name := "LOG2_ARRAY_INT_INDEX_SCALE", type := .int, accessFlags := 25, slot := 6, constantValue := 0 }, { name := "LOG2_ARRAY_LONG_INDEX_SCALE", type := .int, accessFlags := 25, slot := 7, constantValue := 0 }, { name := "LOG2_ARRAY_FLOAT_INDEX_SCALE", type := .int, accessFlags := 25, slot := 8, constantValue := 0 }, { name := "LOG2_ARRAY_DOUBLE_INDEX_SCALE", type := .int, accessFlags := 25, slot := 9, constantValue := 0 }, { name := "LOG2_BYTE_BIT_SIZE", type := .int, accessFlags := 26, slot := 10, constantValue := 0 }, { name := "T_BOOLEAN", type := .int, accessFlags := 25, slot := 11, constantValue := 0 }, { name := "T_CHAR", type := .int, accessFlags := 25, slot := 12, constantValue := 0 }, { name := "T_FLOAT", type := .int, accessFlags := 25, slot := 13, constantValue := 0 }, { name := "T_DOUBLE", type := .int, accessFlags := 25, slot := 14, constantValue := 0 }, { name := "T_BYTE", type := .int, accessFlags := 25, slot := 15, constantValue := 0 }, { name := "T_SHORT", type := .int, accessFlags := 25, slot := 16, constantValue := 0 }, { name := "T_INT", type := .int, accessFlags := 25, slot := 17, constantValue := 0 }, { name := "T_LONG", type := .int, accessFlags := 25, slot := 18, constantValue := 0 }, { name := "JLA", type := (.object "jdk/internal/access/JavaLangAccess"), accessFlags := 26, slot := 19, constantValue := 0 }, { name := "SOFT_MAX_ARRAY_LENGTH", type := .int, accessFlags := 25, slot := 20, constantValue := 0 }]
  methods := #[k21m0]
  instanceTypes := #[]
  staticTypes := #[(.object "jdk/internal/misc/Unsafe"), .boolean, .int, .int, .int, .int, .int, .int, .int, .int, .int, .int, .int, .int, .int, .int, .int, .int, .int, (.object "jdk/internal/access/JavaLangAccess"), .int]
  resolved := Array.replicate 378 none
  statics := none }

def pool22 : Array CpInfo := pool [(1, u "java/lang/Cloneable"), (0, .class_ 1), (0, u "java/lang/Object"), (0, .class_ 3)] 3

/-- java/lang/Cloneable -/
def k22 : Class := { plain "java/lang/Cloneable" (some 0) with
  accessFlags := 1537
  interfaces := #[]
  cf := some (fileOf pool22 2 #[] #[] 1537 4 #[] #[])
  fields := #[]
  methods := #[]
  instanceTypes := #[]
  staticTypes := #[]
  resolved := Array.replicate 8 none
  statics := none }

/-- the primitive byte -/
def k23 : Class := { plain "byte" none with kind := .primitive 'B', accessFlags := 0x411 }
/-- [B -/
def k24 : Class := { plain "[B" (some 0) with kind := .array 23 .byte, interfaces := #[22, 6], accessFlags := 1041 }

/-- the primitive char -/
def k25 : Class := { plain "char" none with kind := .primitive 'C', accessFlags := 0x411 }
/-- [C -/
def k26 : Class := { plain "[C" (some 0) with kind := .array 25 .char, interfaces := #[22, 6], accessFlags := 1041 }

/-- the primitive int -/
def k27 : Class := { plain "int" none with kind := .primitive 'I', accessFlags := 0x411 }
/-- [I -/
def k28 : Class := { plain "[I" (some 0) with kind := .array 27 .int, interfaces := #[22, 6], accessFlags := 1041 }

def heap : Heap := #[{ cls := 11, slots := #[.long 0, .int 1, .null, .int 0, .null, .int 0, .int 0], vm := .statics 11 },
  { cls := 18, slots := #[.int 0, .int 0, .null, .null, .ref 4, .ref 3, .int 0, .int 0, .long 0], vm := .statics 18 },
  { cls := 20, slots := #[.null, .null, .null], vm := .statics 20 },
  { cls := 24, slots := #[.int 48, .int 49, .int 50, .int 51, .int 52, .int 53, .int 54, .int 55, .int 56, .int 57, .int 48, .int 49, .int 50, .int 51, .int 52, .int 53, .int 54, .int 55, .int 56, .int 57, .int 48, .int 49, .int 50, .int 51, .int 52, .int 53, .int 54, .int 55, .int 56, .int 57, .int 48, .int 49, .int 50, .int 51, .int 52, .int 53, .int 54, .int 55, .int 56, .int 57, .int 48, .int 49, .int 50, .int 51, .int 52, .int 53, .int 54, .int 55, .int 56, .int 57, .int 48, .int 49, .int 50, .int 51, .int 52, .int 53, .int 54, .int 55, .int 56, .int 57, .int 48, .int 49, .int 50, .int 51, .int 52, .int 53, .int 54, .int 55, .int 56, .int 57, .int 48, .int 49, .int 50, .int 51, .int 52, .int 53, .int 54, .int 55, .int 56, .int 57, .int 48, .int 49, .int 50, .int 51, .int 52, .int 53, .int 54, .int 55, .int 56, .int 57, .int 48, .int 49, .int 50, .int 51, .int 52, .int 53, .int 54, .int 55, .int 56, .int 57], vm := .none },
  { cls := 24, slots := #[.int 48, .int 48, .int 48, .int 48, .int 48, .int 48, .int 48, .int 48, .int 48, .int 48, .int 49, .int 49, .int 49, .int 49, .int 49, .int 49, .int 49, .int 49, .int 49, .int 49, .int 50, .int 50, .int 50, .int 50, .int 50, .int 50, .int 50, .int 50, .int 50, .int 50, .int 51, .int 51, .int 51, .int 51, .int 51, .int 51, .int 51, .int 51, .int 51, .int 51, .int 52, .int 52, .int 52, .int 52, .int 52, .int 52, .int 52, .int 52, .int 52, .int 52, .int 53, .int 53, .int 53, .int 53, .int 53, .int 53, .int 53, .int 53, .int 53, .int 53, .int 54, .int 54, .int 54, .int 54, .int 54, .int 54, .int 54, .int 54, .int 54, .int 54, .int 55, .int 55, .int 55, .int 55, .int 55, .int 55, .int 55, .int 55, .int 55, .int 55, .int 56, .int 56, .int 56, .int 56, .int 56, .int 56, .int 56, .int 56, .int 56, .int 56, .int 57, .int 57, .int 57, .int 57, .int 57, .int 57, .int 57, .int 57, .int 57, .int 57], vm := .none }]
def classes : Array Class := #[k0, k1, k2, k3, k4, k5, k6, k7, k8, k9, k10, k11, k12, k13, k14, k15, k16, k17, k18, k19, k20, k21, k22, k23, k24, k25, k26, k27, k28]
def interned : List (Array UInt16 × Addr) := []
def slotsUsed : Nat := 219
def theMethod : MethodId := ⟨1, 1⟩
def args0 : Array Value := #[.int 5, .int 7, .int 1]
def aboutOver (below : List Frame) : State where
  vm := { classes := classes, interned := interned.toArray }
  heap := heap
  slotsUsed := slotsUsed
  threads := #[{ frames := .invoking theMethod args0 :: below }]
def below0 : List Frame := [.native { method := ⟨0, 0⟩, args := #[] }]
def about1 : State := aboutOver below0
def p0 : Program := .bare "" "" ""
def e0 : Env := launch0.env 0 0 0
theorem w_frames : about1.frames = Frame.invoking theMethod args0 :: below0 := rfl
set_option maxRecDepth 65536 in
theorem w_args : argsFit about1.vm theMethod args0 = true := by decide +kernel
set_option maxRecDepth 65536 in
theorem w_heap : heapFits about1 = true := by decide +kernel
set_option maxRecDepth 65536 in
theorem w_runnable : about1.curStatus? = some .runnable := by decide +kernel
set_option maxRecDepth 65536 in
theorem w_alone : about1.alone = true := by decide +kernel
set_option maxRecDepth 65536 in
theorem w_named : about1.methodNamed? x = some theMethod := by decide +kernel
set_option maxRecDepth 65536 in
theorem w_hears : about1.hears theMethod below0 = true := by decide +kernel
set_option maxRecDepth 65536 in
theorem w_ripe : about1.ripe theMethod args0 below0 = true := by decide +kernel
theorem w_running : about1.status = .running := rfl
set_option maxRecDepth 65536 in
theorem w_room : about1.hasRoom e0.platform room_1 = true :=
  launch0.hasRoom_least _ room_1 (by decide +kernel) (by decide +kernel) (by decide +kernel) (by decide +kernel) (by decide +kernel) (by decide +kernel)
theorem allAtoms_all (ts : List Jvm.Cond) (a : Array Jvm.Value) (st : Jvm.State) : (allAtoms ts).before a st = ts.all (fun c => c.before a st) := by
  induction ts with
  | nil => rfl
  | cons c t ih =>
    show (Jvm.Cond.and c (allAtoms t)).before a st = _
    rw [Jvm.Cond.before_and, ih, List.all_cons]
def words1 : List Jvm.Cond := Jvm.Cond.code x code maxLocals ret :: tables_1
/-- a 'code' word, met by the world's own term for the bytes: nothing is compared byte by byte -/
theorem code_word {y : MethodName} {bytes : ByteArray} {mx : Nat} {rt : Option FieldType} {a : Array Value} {s : State} {m : MethodId} {meth : Method} {c : Code} (h1 : s.methodNamed? y = some m) (h2 : s.vm.method? m = some meth) (h3 : meth.code = some c) (h4 : c.code = bytes)
    (h5 : (c.maxLocals == mx && c.exceptionTable.isEmpty && decide (c.maxStack ≤ mostOperands) && decide (meth.sig.returnType = rt) && !meth.locks && decide (parseMethodDescriptor y.desc = some meth.sig)) = true) : (Jvm.Cond.code y bytes mx rt).before a s = true := by
  simp only [Bool.and_eq_true, beq_iff_eq, Bool.not_eq_true', decide_eq_true_eq] at h5
  obtain ⟨⟨⟨⟨⟨g1, g2⟩, g3⟩, g4⟩, g5⟩, g6⟩ := h5
  simp [Cond.before, Cond.holds, Cond.value, h1, h2, h3, h4, g1, g2, g3, g4, g5, g6]
def isCode : Jvm.Cond → Bool
  | .code _ _ _ _ => true
  | _ => false
theorem all_split {L : List Jvm.Cond} {P : Jvm.Cond → Bool} (h1 : L.all (fun c => isCode c || P c) = true) (h2 : ∀ c ∈ L.filter isCode, P c = true) : L.all P = true := by
  refine List.all_eq_true.mpr fun c hc => ?_
  have h := List.all_eq_true.mp h1 c hc
  rcases Bool.eq_false_or_eq_true (isCode c) with hi | hi
  · exact h2 c (List.mem_filter.mpr ⟨hc, hi⟩)
  · simpa [hi] using h
set_option maxRecDepth 65536 in
theorem w_c0 : (Jvm.Cond.code x code maxLocals ret).before args0 about1 = true := code_word (m := ⟨1, 1⟩) (meth := k1m1) (c := k1c1) (by decide +kernel) rfl rfl rfl (by decide +kernel)
set_option maxRecDepth 65536 in
theorem w_c1 : (Jvm.Cond.code ({ cls := "com/example/adjoinery/adjoinery/JsonWriter", name := "<init>", desc := "()V" } : Jvm.MethodName) prog_33_method_1_code (1 : Nat) (Option.none : Option Jvm.ClassFile.FieldType)).before args0 about1 = true := code_word (m := ⟨2, 0⟩) (meth := k2m0) (c := k2c0) (by decide +kernel) rfl rfl rfl (by decide +kernel)
set_option maxRecDepth 65536 in
theorem w_c2 : (Jvm.Cond.code ({ cls := "java/lang/Object", name := "<init>", desc := "()V" } : Jvm.MethodName) object_method_1_code (1 : Nat) (Option.none : Option Jvm.ClassFile.FieldType)).before args0 about1 = true := code_word (m := ⟨0, 0⟩) (meth := k0m0) (c := k0c0) (by decide +kernel) rfl rfl rfl (by decide +kernel)
set_option maxRecDepth 65536 in
theorem w_c3 : (Jvm.Cond.code ({ cls := "java/lang/StringBuilder", name := "<init>", desc := "()V" } : Jvm.MethodName) jdk_67_method_1_code (1 : Nat) (Option.none : Option Jvm.ClassFile.FieldType)).before args0 about1 = true := code_word (m := ⟨8, 0⟩) (meth := k8m0) (c := k8c0) (by decide +kernel) rfl rfl rfl (by decide +kernel)
set_option maxRecDepth 65536 in
theorem w_c4 : (Jvm.Cond.code ({ cls := "java/lang/AbstractStringBuilder", name := "<init>", desc := "(I)V" } : Jvm.MethodName) jdk_68_method_2_code (2 : Nat) (Option.none : Option Jvm.ClassFile.FieldType)).before args0 about1 = true := code_word (m := ⟨5, 1⟩) (meth := k5m1) (c := k5c1) (by decide +kernel) rfl rfl rfl (by decide +kernel)
set_option maxRecDepth 65536 in
theorem w_c5 : (Jvm.Cond.code ({ cls := "com/example/adjoinery/adjoinery/JsonWriter", name := "drain", desc := "()Ljava/lang/String;" } : Jvm.MethodName) prog_33_method_10_code (2 : Nat) (Option.some (Jvm.ClassFile.FieldType.object "java/lang/String"))).before args0 about1 = true := code_word (m := ⟨2, 4⟩) (meth := k2m4) (c := k2c4) (by decide +kernel) rfl rfl rfl (by decide +kernel)
set_option maxRecDepth 65536 in
theorem w_c6 : (Jvm.Cond.code ({ cls := "java/lang/StringBuilder", name := "toString", desc := "()Ljava/lang/String;" } : Jvm.MethodName) jdk_67_method_42_code (1 : Nat) (Option.some (Jvm.ClassFile.FieldType.object "java/lang/String"))).before args0 about1 = true := code_word (m := ⟨8, 3⟩) (meth := k8m3) (c := k8c3) (by decide +kernel) rfl rfl rfl (by decide +kernel)
set_option maxRecDepth 65536 in
theorem w_c7 : (Jvm.Cond.code ({ cls := "java/lang/String", name := "<init>", desc := "(Ljava/lang/StringBuilder;)V" } : Jvm.MethodName) jdk_42_method_53_code (2 : Nat) (Option.none : Option Jvm.ClassFile.FieldType)).before args0 about1 = true := code_word (m := ⟨11, 2⟩) (meth := k11m2) (c := k11c2) (by decide +kernel) rfl rfl rfl (by decide +kernel)
set_option maxRecDepth 65536 in
theorem w_c8 : (Jvm.Cond.code ({ cls := "java/lang/String", name := "<init>", desc := "(Ljava/lang/AbstractStringBuilder;Ljava/lang/Void;)V" } : Jvm.MethodName) jdk_42_method_150_code (5 : Nat) (Option.none : Option Jvm.ClassFile.FieldType)).before args0 about1 = true := code_word (m := ⟨11, 7⟩) (meth := k11m7) (c := k11c7) (by decide +kernel) rfl rfl rfl (by decide +kernel)
set_option maxRecDepth 65536 in
theorem w_c9 : (Jvm.Cond.code ({ cls := "java/lang/AbstractStringBuilder", name := "getValue", desc := "()[B" } : Jvm.MethodName) jdk_68_method_64_code (1 : Nat) (Option.some (Jvm.ClassFile.FieldType.array Jvm.ClassFile.FieldType.byte))).before args0 about1 = true := code_word (m := ⟨5, 7⟩) (meth := k5m7) (c := k5c7) (by decide +kernel) rfl rfl rfl (by decide +kernel)
set_option maxRecDepth 65536 in
theorem w_c10 : (Jvm.Cond.code ({ cls := "java/lang/StringBuilder", name := "length", desc := "()I" } : Jvm.MethodName) jdk_67_method_93_code (1 : Nat) (Option.some Jvm.ClassFile.FieldType.int)).before args0 about1 = true := code_word (m := ⟨8, 5⟩) (meth := k8m5) (c := k8c5) (by decide +kernel) rfl rfl rfl (by decide +kernel)
set_option maxRecDepth 65536 in
theorem w_c11 : (Jvm.Cond.code ({ cls := "java/lang/AbstractStringBuilder", name := "length", desc := "()I" } : Jvm.MethodName) jdk_68_method_6_code (1 : Nat) (Option.some Jvm.ClassFile.FieldType.int)).before args0 about1 = true := code_word (m := ⟨5, 2⟩) (meth := k5m2) (c := k5c2) (by decide +kernel) rfl rfl rfl (by decide +kernel)
set_option maxRecDepth 65536 in
theorem w_c12 : (Jvm.Cond.code ({ cls := "java/lang/AbstractStringBuilder", name := "isLatin1", desc := "()Z" } : Jvm.MethodName) jdk_68_method_68_code (1 : Nat) (Option.some Jvm.ClassFile.FieldType.boolean)).before args0 about1 = true := code_word (m := ⟨5, 8⟩) (meth := k5m8) (c := k5c8) (by decide +kernel) rfl rfl rfl (by decide +kernel)
set_option maxRecDepth 65536 in
theorem w_c13 : (Jvm.Cond.code ({ cls := "java/util/Arrays", name := "copyOfRange", desc := "([BII)[B" } : Jvm.MethodName) jdk_65_method_132_code (3 : Nat) (Option.some (Jvm.ClassFile.FieldType.array Jvm.ClassFile.FieldType.byte))).before args0 about1 = true := code_word (m := ⟨12, 2⟩) (meth := k12m2) (c := k12c2) (by decide +kernel) rfl rfl rfl (by decide +kernel)
set_option maxRecDepth 65536 in
theorem w_c14 : (Jvm.Cond.code ({ cls := "java/util/Arrays", name := "copyOfRangeByte", desc := "([BII)[B" } : Jvm.MethodName) jdk_65_method_133_code (5 : Nat) (Option.some (Jvm.ClassFile.FieldType.array Jvm.ClassFile.FieldType.byte))).before args0 about1 = true := code_word (m := ⟨12, 3⟩) (meth := k12m3) (c := k12c3) (by decide +kernel) rfl rfl rfl (by decide +kernel)
set_option maxRecDepth 65536 in
theorem w_c15 : (Jvm.Cond.code ({ cls := "java/util/Arrays", name := "checkLength", desc := "(II)V" } : Jvm.MethodName) jdk_65_method_131_code (2 : Nat) (Option.none : Option Jvm.ClassFile.FieldType)).before args0 about1 = true := code_word (m := ⟨12, 1⟩) (meth := k12m1) (c := k12c1) (by decide +kernel) rfl rfl rfl (by decide +kernel)
set_option maxRecDepth 65536 in
theorem w_c16 : (Jvm.Cond.code ({ cls := "java/lang/Math", name := "min", desc := "(II)I" } : Jvm.MethodName) jdk_29_method_69_code (2 : Nat) (Option.some Jvm.ClassFile.FieldType.int)).before args0 about1 = true := code_word (m := ⟨13, 1⟩) (meth := k13m1) (c := k13c1) (by decide +kernel) rfl rfl rfl (by decide +kernel)
set_option maxRecDepth 65536 in
theorem w_c17 : (Jvm.Cond.code ({ cls := "java/lang/StringBuilder", name := "setLength", desc := "(I)V" } : Jvm.MethodName) jdk_67_method_89_code (2 : Nat) (Option.none : Option Jvm.ClassFile.FieldType)).before args0 about1 = true := code_word (m := ⟨8, 4⟩) (meth := k8m4) (c := k8c4) (by decide +kernel) rfl rfl rfl (by decide +kernel)
set_option maxRecDepth 65536 in
theorem w_c18 : (Jvm.Cond.code ({ cls := "java/lang/AbstractStringBuilder", name := "setLength", desc := "(I)V" } : Jvm.MethodName) jdk_68_method_13_code (2 : Nat) (Option.none : Option Jvm.ClassFile.FieldType)).before args0 about1 = true := code_word (m := ⟨5, 4⟩) (meth := k5m4) (c := k5c4) (by decide +kernel) rfl rfl rfl (by decide +kernel)
set_option maxRecDepth 65536 in
theorem w_c19 : (Jvm.Cond.code ({ cls := "java/lang/AbstractStringBuilder", name := "ensureCapacityInternal", desc := "(I)V" } : Jvm.MethodName) jdk_68_method_9_code (3 : Nat) (Option.none : Option Jvm.ClassFile.FieldType)).before args0 about1 = true := code_word (m := ⟨5, 3⟩) (meth := k5m3) (c := k5c3) (by decide +kernel) rfl rfl rfl (by decide +kernel)
set_option maxRecDepth 65536 in
theorem w_c20 : (Jvm.Cond.code ({ cls := "com/example/adjoinery/adjoinery/JsonWriter", name := "startArray", desc := "()Lcom/example/adjoinery/adjoinery/JsonWriter;" } : Jvm.MethodName) prog_33_method_4_code (1 : Nat) (Option.some (Jvm.ClassFile.FieldType.object "com/example/adjoinery/adjoinery/JsonWriter"))).before args0 about1 = true := code_word (m := ⟨2, 1⟩) (meth := k2m1) (c := k2c1) (by decide +kernel) rfl rfl rfl (by decide +kernel)
set_option maxRecDepth 65536 in
theorem w_c21 : (Jvm.Cond.code ({ cls := "com/example/adjoinery/adjoinery/JsonWriter", name := "open", desc := "(C)Lcom/example/adjoinery/adjoinery/JsonWriter;" } : Jvm.MethodName) prog_33_method_11_code (2 : Nat) (Option.some (Jvm.ClassFile.FieldType.object "com/example/adjoinery/adjoinery/JsonWriter"))).before args0 about1 = true := code_word (m := ⟨2, 5⟩) (meth := k2m5) (c := k2c5) (by decide +kernel) rfl rfl rfl (by decide +kernel)
set_option maxRecDepth 65536 in
theorem w_c22 : (Jvm.Cond.code ({ cls := "com/example/adjoinery/adjoinery/JsonWriter", name := "separate", desc := "()V" } : Jvm.MethodName) prog_33_method_13_code (1 : Nat) (Option.none : Option Jvm.ClassFile.FieldType)).before args0 about1 = true := code_word (m := ⟨2, 7⟩) (meth := k2m7) (c := k2c7) (by decide +kernel) rfl rfl rfl (by decide +kernel)
set_option maxRecDepth 65536 in
theorem w_c23 : (Jvm.Cond.code ({ cls := "java/lang/StringBuilder", name := "append", desc := "(C)Ljava/lang/StringBuilder;" } : Jvm.MethodName) jdk_67_method_14_code (2 : Nat) (Option.some (Jvm.ClassFile.FieldType.object "java/lang/StringBuilder"))).before args0 about1 = true := code_word (m := ⟨8, 1⟩) (meth := k8m1) (c := k8c1) (by decide +kernel) rfl rfl rfl (by decide +kernel)
set_option maxRecDepth 65536 in
theorem w_c24 : (Jvm.Cond.code ({ cls := "java/lang/AbstractStringBuilder", name := "append", desc := "(C)Ljava/lang/AbstractStringBuilder;" } : Jvm.MethodName) jdk_68_method_31_code (2 : Nat) (Option.some (Jvm.ClassFile.FieldType.object "java/lang/AbstractStringBuilder"))).before args0 about1 = true := code_word (m := ⟨5, 5⟩) (meth := k5m5) (c := k5c5) (by decide +kernel) rfl rfl rfl (by decide +kernel)
set_option maxRecDepth 65536 in
theorem w_c25 : (Jvm.Cond.code ({ cls := "java/lang/StringLatin1", name := "canEncode", desc := "(C)Z" } : Jvm.MethodName) jdk_43_method_3_code (1 : Nat) (Option.some Jvm.ClassFile.FieldType.boolean)).before args0 about1 = true := code_word (m := ⟨15, 1⟩) (meth := k15m1) (c := k15c1) (by decide +kernel) rfl rfl rfl (by decide +kernel)
set_option maxRecDepth 65536 in
theorem w_c26 : (Jvm.Cond.code ({ cls := "com/example/adjoinery/adjoinery/JsonWriter", name := "endArray", desc := "()Lcom/example/adjoinery/adjoinery/JsonWriter;" } : Jvm.MethodName) prog_33_method_5_code (1 : Nat) (Option.some (Jvm.ClassFile.FieldType.object "com/example/adjoinery/adjoinery/JsonWriter"))).before args0 about1 = true := code_word (m := ⟨2, 2⟩) (meth := k2m2) (c := k2c2) (by decide +kernel) rfl rfl rfl (by decide +kernel)
set_option maxRecDepth 65536 in
theorem w_c27 : (Jvm.Cond.code ({ cls := "com/example/adjoinery/adjoinery/JsonWriter", name := "close", desc := "(C)Lcom/example/adjoinery/adjoinery/JsonWriter;" } : Jvm.MethodName) prog_33_method_12_code (2 : Nat) (Option.some (Jvm.ClassFile.FieldType.object "com/example/adjoinery/adjoinery/JsonWriter"))).before args0 about1 = true := code_word (m := ⟨2, 6⟩) (meth := k2m6) (c := k2c6) (by decide +kernel) rfl rfl rfl (by decide +kernel)
set_option maxRecDepth 65536 in
theorem w_c28 : (Jvm.Cond.code ({ cls := "java/lang/String", name := "valueOf", desc := "(C)Ljava/lang/String;" } : Jvm.MethodName) jdk_42_method_139_code (1 : Nat) (Option.some (Jvm.ClassFile.FieldType.object "java/lang/String"))).before args0 about1 = true := code_word (m := ⟨11, 5⟩) (meth := k11m5) (c := k11c5) (by decide +kernel) rfl rfl rfl (by decide +kernel)
set_option maxRecDepth 65536 in
theorem w_c29 : (Jvm.Cond.code ({ cls := "java/lang/StringLatin1", name := "toBytes", desc := "(C)[B" } : Jvm.MethodName) jdk_43_method_46_code (1 : Nat) (Option.some (Jvm.ClassFile.FieldType.array Jvm.ClassFile.FieldType.byte))).before args0 about1 = true := code_word (m := ⟨15, 3⟩) (meth := k15m3) (c := k15c3) (by decide +kernel) rfl rfl rfl (by decide +kernel)
set_option maxRecDepth 65536 in
theorem w_c30 : (Jvm.Cond.code ({ cls := "java/lang/String", name := "<init>", desc := "([BB)V" } : Jvm.MethodName) jdk_42_method_151_code (3 : Nat) (Option.none : Option Jvm.ClassFile.FieldType)).before args0 about1 = true := code_word (m := ⟨11, 8⟩) (meth := k11m8) (c := k11c8) (by decide +kernel) rfl rfl rfl (by decide +kernel)
set_option maxRecDepth 65536 in
theorem w_c31 : (Jvm.Cond.code ({ cls := "java/lang/String", name := "isEmpty", desc := "()Z" } : Jvm.MethodName) jdk_42_method_55_code (1 : Nat) (Option.some Jvm.ClassFile.FieldType.boolean)).before args0 about1 = true := code_word (m := ⟨11, 3⟩) (meth := k11m3) (c := k11c3) (by decide +kernel) rfl rfl rfl (by decide +kernel)
set_option maxRecDepth 65536 in
theorem w_c32 : (Jvm.Cond.code ({ cls := "java/lang/String", name := "equals", desc := "(Ljava/lang/Object;)Z" } : Jvm.MethodName) jdk_42_method_66_code (3 : Nat) (Option.some Jvm.ClassFile.FieldType.boolean)).before args0 about1 = true := code_word (m := ⟨11, 4⟩) (meth := k11m4) (c := k11c4) (by decide +kernel) rfl rfl rfl (by decide +kernel)
set_option maxRecDepth 65536 in
theorem w_c33 : (Jvm.Cond.code ({ cls := "java/lang/StringLatin1", name := "equals", desc := "([B[B)Z" } : Jvm.MethodName) jdk_43_method_13_code (3 : Nat) (Option.some Jvm.ClassFile.FieldType.boolean)).before args0 about1 = true := code_word (m := ⟨15, 2⟩) (meth := k15m2) (c := k15c2) (by decide +kernel) rfl rfl rfl (by decide +kernel)
set_option maxRecDepth 65536 in
theorem w_c34 : (Jvm.Cond.code ({ cls := "com/example/adjoinery/adjoinery/JsonWriter", name := "number", desc := "(J)Lcom/example/adjoinery/adjoinery/JsonWriter;" } : Jvm.MethodName) prog_33_method_9_code (3 : Nat) (Option.some (Jvm.ClassFile.FieldType.object "com/example/adjoinery/adjoinery/JsonWriter"))).before args0 about1 = true := code_word (m := ⟨2, 3⟩) (meth := k2m3) (c := k2c3) (by decide +kernel) rfl rfl rfl (by decide +kernel)
set_option maxRecDepth 65536 in
theorem w_c35 : (Jvm.Cond.code ({ cls := "java/lang/StringBuilder", name := "append", desc := "(J)Ljava/lang/StringBuilder;" } : Jvm.MethodName) jdk_67_method_16_code (3 : Nat) (Option.some (Jvm.ClassFile.FieldType.object "java/lang/StringBuilder"))).before args0 about1 = true := code_word (m := ⟨8, 2⟩) (meth := k8m2) (c := k8c2) (by decide +kernel) rfl rfl rfl (by decide +kernel)
set_option maxRecDepth 65536 in
theorem w_c36 : (Jvm.Cond.code ({ cls := "java/lang/AbstractStringBuilder", name := "append", desc := "(J)Ljava/lang/AbstractStringBuilder;" } : Jvm.MethodName) jdk_68_method_33_code (5 : Nat) (Option.some (Jvm.ClassFile.FieldType.object "java/lang/AbstractStringBuilder"))).before args0 about1 = true := code_word (m := ⟨5, 6⟩) (meth := k5m6) (c := k5c6) (by decide +kernel) rfl rfl rfl (by decide +kernel)
set_option maxRecDepth 65536 in
theorem w_c37 : (Jvm.Cond.code ({ cls := "java/lang/Long", name := "stringSize", desc := "(J)I" } : Jvm.MethodName) jdk_35_method_15_code (6 : Nat) (Option.some Jvm.ClassFile.FieldType.int)).before args0 about1 = true := code_word (m := ⟨17, 1⟩) (meth := k17m1) (c := k17c1) (by decide +kernel) rfl rfl rfl (by decide +kernel)
set_option maxRecDepth 65536 in
theorem w_c38 : (Jvm.Cond.code ({ cls := "java/lang/Long", name := "getChars", desc := "(JI[B)I" } : Jvm.MethodName) jdk_35_method_14_code (11 : Nat) (Option.some Jvm.ClassFile.FieldType.int)).before args0 about1 = true := code_word (m := ⟨17, 0⟩) (meth := k17m0) (c := k17c0) (by decide +kernel) rfl rfl rfl (by decide +kernel)
set_option maxRecDepth 65536 in
theorem w_c39 : (Jvm.Cond.code ({ cls := "java/lang/String", name := "<init>", desc := "([C)V" } : Jvm.MethodName) jdk_42_method_3_code (2 : Nat) (Option.none : Option Jvm.ClassFile.FieldType)).before args0 about1 = true := code_word (m := ⟨11, 1⟩) (meth := k11m1) (c := k11c1) (by decide +kernel) rfl rfl rfl (by decide +kernel)
set_option maxRecDepth 65536 in
theorem w_c40 : (Jvm.Cond.code ({ cls := "java/lang/String", name := "<init>", desc := "([CIILjava/lang/Void;)V" } : Jvm.MethodName) jdk_42_method_149_code (6 : Nat) (Option.none : Option Jvm.ClassFile.FieldType)).before args0 about1 = true := code_word (m := ⟨11, 6⟩) (meth := k11m6) (c := k11c6) (by decide +kernel) rfl rfl rfl (by decide +kernel)
set_option maxRecDepth 65536 in
theorem w_c41 : (Jvm.Cond.code ({ cls := "java/lang/StringUTF16", name := "compress", desc := "([CII)[B" } : Jvm.MethodName) jdk_52_method_16_code (6 : Nat) (Option.some (Jvm.ClassFile.FieldType.array Jvm.ClassFile.FieldType.byte))).before args0 about1 = true := code_word (m := ⟨19, 2⟩) (meth := k19m2) (c := k19c2) (by decide +kernel) rfl rfl rfl (by decide +kernel)
set_option maxRecDepth 65536 in
theorem w_c42 : (Jvm.Cond.code ({ cls := "java/lang/StringUTF16", name := "compress", desc := "([CI[BII)I" } : Jvm.MethodName) jdk_52_method_21_code (7 : Nat) (Option.some Jvm.ClassFile.FieldType.int)).before args0 about1 = true := code_word (m := ⟨19, 3⟩) (meth := k19m3) (c := k19c3) (by decide +kernel) rfl rfl rfl (by decide +kernel)
set_option maxRecDepth 65536 in
theorem w_c43 : (Jvm.Cond.code ({ cls := "java/lang/StringUTF16", name := "coderFromArrayLen", desc := "([BI)B" } : Jvm.MethodName) jdk_52_method_15_code (2 : Nat) (Option.some Jvm.ClassFile.FieldType.byte)).before args0 about1 = true := code_word (m := ⟨19, 1⟩) (meth := k19m1) (c := k19c1) (by decide +kernel) rfl rfl rfl (by decide +kernel)
def codes1 : List Jvm.Cond := [Jvm.Cond.code x code maxLocals ret, Jvm.Cond.code ({ cls := "com/example/adjoinery/adjoinery/JsonWriter", name := "<init>", desc := "()V" } : Jvm.MethodName) prog_33_method_1_code (1 : Nat) (Option.none : Option Jvm.ClassFile.FieldType), Jvm.Cond.code ({ cls := "java/lang/Object", name := "<init>", desc := "()V" } : Jvm.MethodName) object_method_1_code (1 : Nat) (Option.none : Option Jvm.ClassFile.FieldType), Jvm.Cond.code ({ cls := "java/lang/StringBuilder", name := "<init>", desc := "()V" } : Jvm.MethodName) jdk_67_method_1_code (1 : Nat) (Option.none : Option Jvm.ClassFile.FieldType), Jvm.Cond.code ({ cls := "java/lang/AbstractStringBuilder", name := "<init>", desc := "(I)V" } : Jvm.MethodName) jdk_68_method_2_code (2 : Nat) (Option.none : Option Jvm.ClassFile.FieldType), Jvm.Cond.code ({ cls := "com/example/adjoinery/adjoinery/JsonWriter", name := "drain", desc := "()Ljava/lang/String;" } : Jvm.MethodName) prog_33_method_10_code (2 : Nat) (Option.some (Jvm.ClassFile.FieldType.object "java/lang/String")), Jvm.Cond.code ({ cls := "java/lang/StringBuilder", name := "toString", desc := "()Ljava/lang/String;" } : Jvm.MethodName) jdk_67_method_42_code (1 : Nat) (Option.some (Jvm.ClassFile.FieldType.object "java/lang/String")), Jvm.Cond.code ({ cls := "java/lang/String", name := "<init>", desc := "(Ljava/lang/StringBuilder;)V" } : Jvm.MethodName) jdk_42_method_53_code (2 : Nat) (Option.none : Option Jvm.ClassFile.FieldType), Jvm.Cond.code ({ cls := "java/lang/String", name := "<init>", desc := "(Ljava/lang/AbstractStringBuilder;Ljava/lang/Void;)V" } : Jvm.MethodName) jdk_42_method_150_code (5 : Nat) (Option.none : Option Jvm.ClassFile.FieldType), Jvm.Cond.code ({ cls := "java/lang/AbstractStringBuilder", name := "getValue", desc := "()[B" } : Jvm.MethodName) jdk_68_method_64_code (1 : Nat) (Option.some (Jvm.ClassFile.FieldType.array Jvm.ClassFile.FieldType.byte)), Jvm.Cond.code ({ cls := "java/lang/StringBuilder", name := "length", desc := "()I" } : Jvm.MethodName) jdk_67_method_93_code (1 : Nat) (Option.some Jvm.ClassFile.FieldType.int), Jvm.Cond.code ({ cls := "java/lang/AbstractStringBuilder", name := "length", desc := "()I" } : Jvm.MethodName) jdk_68_method_6_code (1 : Nat) (Option.some Jvm.ClassFile.FieldType.int), Jvm.Cond.code ({ cls := "java/lang/AbstractStringBuilder", name := "isLatin1", desc := "()Z" } : Jvm.MethodName) jdk_68_method_68_code (1 : Nat) (Option.some Jvm.ClassFile.FieldType.boolean), Jvm.Cond.code ({ cls := "java/util/Arrays", name := "copyOfRange", desc := "([BII)[B" } : Jvm.MethodName) jdk_65_method_132_code (3 : Nat) (Option.some (Jvm.ClassFile.FieldType.array Jvm.ClassFile.FieldType.byte)), Jvm.Cond.code ({ cls := "java/util/Arrays", name := "copyOfRangeByte", desc := "([BII)[B" } : Jvm.MethodName) jdk_65_method_133_code (5 : Nat) (Option.some (Jvm.ClassFile.FieldType.array Jvm.ClassFile.FieldType.byte)), Jvm.Cond.code ({ cls := "java/util/Arrays", name := "checkLength", desc := "(II)V" } : Jvm.MethodName) jdk_65_method_131_code (2 : Nat) (Option.none : Option Jvm.ClassFile.FieldType), Jvm.Cond.code ({ cls := "java/lang/Math", name := "min", desc := "(II)I" } : Jvm.MethodName) jdk_29_method_69_code (2 : Nat) (Option.some Jvm.ClassFile.FieldType.int), Jvm.Cond.code ({ cls := "java/lang/StringBuilder", name := "setLength", desc := "(I)V" } : Jvm.MethodName) jdk_67_method_89_code (2 : Nat) (Option.none : Option Jvm.ClassFile.FieldType), Jvm.Cond.code ({ cls := "java/lang/AbstractStringBuilder", name := "setLength", desc := "(I)V" } : Jvm.MethodName) jdk_68_method_13_code (2 : Nat) (Option.none : Option Jvm.ClassFile.FieldType), Jvm.Cond.code ({ cls := "java/lang/AbstractStringBuilder", name := "ensureCapacityInternal", desc := "(I)V" } : Jvm.MethodName) jdk_68_method_9_code (3 : Nat) (Option.none : Option Jvm.ClassFile.FieldType), Jvm.Cond.code ({ cls := "com/example/adjoinery/adjoinery/JsonWriter", name := "startArray", desc := "()Lcom/example/adjoinery/adjoinery/JsonWriter;" } : Jvm.MethodName) prog_33_method_4_code (1 : Nat) (Option.some (Jvm.ClassFile.FieldType.object "com/example/adjoinery/adjoinery/JsonWriter")), Jvm.Cond.code ({ cls := "com/example/adjoinery/adjoinery/JsonWriter", name := "open", desc := "(C)Lcom/example/adjoinery/adjoinery/JsonWriter;" } : Jvm.MethodName) prog_33_method_11_code (2 : Nat) (Option.some (Jvm.ClassFile.FieldType.object "com/example/adjoinery/adjoinery/JsonWriter")), Jvm.Cond.code ({ cls := "com/example/adjoinery/adjoinery/JsonWriter", name := "separate", desc := "()V" } : Jvm.MethodName) prog_33_method_13_code (1 : Nat) (Option.none : Option Jvm.ClassFile.FieldType), Jvm.Cond.code ({ cls := "java/lang/StringBuilder", name := "append", desc := "(C)Ljava/lang/StringBuilder;" } : Jvm.MethodName) jdk_67_method_14_code (2 : Nat) (Option.some (Jvm.ClassFile.FieldType.object "java/lang/StringBuilder")), Jvm.Cond.code ({ cls := "java/lang/AbstractStringBuilder", name := "append", desc := "(C)Ljava/lang/AbstractStringBuilder;" } : Jvm.MethodName) jdk_68_method_31_code (2 : Nat) (Option.some (Jvm.ClassFile.FieldType.object "java/lang/AbstractStringBuilder")), Jvm.Cond.code ({ cls := "java/lang/StringLatin1", name := "canEncode", desc := "(C)Z" } : Jvm.MethodName) jdk_43_method_3_code (1 : Nat) (Option.some Jvm.ClassFile.FieldType.boolean), Jvm.Cond.code ({ cls := "com/example/adjoinery/adjoinery/JsonWriter", name := "endArray", desc := "()Lcom/example/adjoinery/adjoinery/JsonWriter;" } : Jvm.MethodName) prog_33_method_5_code (1 : Nat) (Option.some (Jvm.ClassFile.FieldType.object "com/example/adjoinery/adjoinery/JsonWriter")), Jvm.Cond.code ({ cls := "com/example/adjoinery/adjoinery/JsonWriter", name := "close", desc := "(C)Lcom/example/adjoinery/adjoinery/JsonWriter;" } : Jvm.MethodName) prog_33_method_12_code (2 : Nat) (Option.some (Jvm.ClassFile.FieldType.object "com/example/adjoinery/adjoinery/JsonWriter")), Jvm.Cond.code ({ cls := "java/lang/String", name := "valueOf", desc := "(C)Ljava/lang/String;" } : Jvm.MethodName) jdk_42_method_139_code (1 : Nat) (Option.some (Jvm.ClassFile.FieldType.object "java/lang/String")), Jvm.Cond.code ({ cls := "java/lang/StringLatin1", name := "toBytes", desc := "(C)[B" } : Jvm.MethodName) jdk_43_method_46_code (1 : Nat) (Option.some (Jvm.ClassFile.FieldType.array Jvm.ClassFile.FieldType.byte)), Jvm.Cond.code ({ cls := "java/lang/String", name := "<init>", desc := "([BB)V" } : Jvm.MethodName) jdk_42_method_151_code (3 : Nat) (Option.none : Option Jvm.ClassFile.FieldType), Jvm.Cond.code ({ cls := "java/lang/String", name := "isEmpty", desc := "()Z" } : Jvm.MethodName) jdk_42_method_55_code (1 : Nat) (Option.some Jvm.ClassFile.FieldType.boolean), Jvm.Cond.code ({ cls := "java/lang/String", name := "equals", desc := "(Ljava/lang/Object;)Z" } : Jvm.MethodName) jdk_42_method_66_code (3 : Nat) (Option.some Jvm.ClassFile.FieldType.boolean), Jvm.Cond.code ({ cls := "java/lang/StringLatin1", name := "equals", desc := "([B[B)Z" } : Jvm.MethodName) jdk_43_method_13_code (3 : Nat) (Option.some Jvm.ClassFile.FieldType.boolean), Jvm.Cond.code ({ cls := "com/example/adjoinery/adjoinery/JsonWriter", name := "number", desc := "(J)Lcom/example/adjoinery/adjoinery/JsonWriter;" } : Jvm.MethodName) prog_33_method_9_code (3 : Nat) (Option.some (Jvm.ClassFile.FieldType.object "com/example/adjoinery/adjoinery/JsonWriter")), Jvm.Cond.code ({ cls := "java/lang/StringBuilder", name := "append", desc := "(J)Ljava/lang/StringBuilder;" } : Jvm.MethodName) jdk_67_method_16_code (3 : Nat) (Option.some (Jvm.ClassFile.FieldType.object "java/lang/StringBuilder")), Jvm.Cond.code ({ cls := "java/lang/AbstractStringBuilder", name := "append", desc := "(J)Ljava/lang/AbstractStringBuilder;" } : Jvm.MethodName) jdk_68_method_33_code (5 : Nat) (Option.some (Jvm.ClassFile.FieldType.object "java/lang/AbstractStringBuilder")), Jvm.Cond.code ({ cls := "java/lang/Long", name := "stringSize", desc := "(J)I" } : Jvm.MethodName) jdk_35_method_15_code (6 : Nat) (Option.some Jvm.ClassFile.FieldType.int), Jvm.Cond.code ({ cls := "java/lang/Long", name := "getChars", desc := "(JI[B)I" } : Jvm.MethodName) jdk_35_method_14_code (11 : Nat) (Option.some Jvm.ClassFile.FieldType.int), Jvm.Cond.code ({ cls := "java/lang/String", name := "<init>", desc := "([C)V" } : Jvm.MethodName) jdk_42_method_3_code (2 : Nat) (Option.none : Option Jvm.ClassFile.FieldType), Jvm.Cond.code ({ cls := "java/lang/String", name := "<init>", desc := "([CIILjava/lang/Void;)V" } : Jvm.MethodName) jdk_42_method_149_code (6 : Nat) (Option.none : Option Jvm.ClassFile.FieldType), Jvm.Cond.code ({ cls := "java/lang/StringUTF16", name := "compress", desc := "([CII)[B" } : Jvm.MethodName) jdk_52_method_16_code (6 : Nat) (Option.some (Jvm.ClassFile.FieldType.array Jvm.ClassFile.FieldType.byte)), Jvm.Cond.code ({ cls := "java/lang/StringUTF16", name := "compress", desc := "([CI[BII)I" } : Jvm.MethodName) jdk_52_method_21_code (7 : Nat) (Option.some Jvm.ClassFile.FieldType.int), Jvm.Cond.code ({ cls := "java/lang/StringUTF16", name := "coderFromArrayLen", desc := "([BI)B" } : Jvm.MethodName) jdk_52_method_15_code (2 : Nat) (Option.some Jvm.ClassFile.FieldType.byte)]
set_option maxRecDepth 65536 in
theorem codes_eq : words1.filter isCode = codes1 := rfl
theorem w_codes : ∀ c ∈ words1.filter isCode, c.before args0 about1 = true := by
  rw [codes_eq]
  intro c hc
  simp only [codes1, List.mem_cons, List.not_mem_nil, or_false] at hc
  rcases hc with rfl | rfl | rfl | rfl | rfl | rfl | rfl | rfl | rfl | rfl | rfl | rfl | rfl | rfl | rfl | rfl | rfl | rfl | rfl | rfl | rfl | rfl | rfl | rfl | rfl | rfl | rfl | rfl | rfl | rfl | rfl | rfl | rfl | rfl | rfl | rfl | rfl | rfl | rfl | rfl | rfl | rfl | rfl | rfl
  · exact w_c0
  · exact w_c1
  · exact w_c2
  · exact w_c3
  · exact w_c4
  · exact w_c5
  · exact w_c6
  · exact w_c7
  · exact w_c8
  · exact w_c9
  · exact w_c10
  · exact w_c11
  · exact w_c12
  · exact w_c13
  · exact w_c14
  · exact w_c15
  · exact w_c16
  · exact w_c17
  · exact w_c18
  · exact w_c19
  · exact w_c20
  · exact w_c21
  · exact w_c22
  · exact w_c23
  · exact w_c24
  · exact w_c25
  · exact w_c26
  · exact w_c27
  · exact w_c28
  · exact w_c29
  · exact w_c30
  · exact w_c31
  · exact w_c32
  · exact w_c33
  · exact w_c34
  · exact w_c35
  · exact w_c36
  · exact w_c37
  · exact w_c38
  · exact w_c39
  · exact w_c40
  · exact w_c41
  · exact w_c42
  · exact w_c43
set_option maxRecDepth 65536 in
theorem w_t1 : (words1.take 24).all (fun c => isCode c || c.before args0 about1) = true := by decide +kernel
set_option maxRecDepth 65536 in
theorem w_t2 : ((words1.drop 24).take 24).all (fun c => isCode c || c.before args0 about1) = true := by decide +kernel
set_option maxRecDepth 65536 in
theorem w_t3 : (((words1.drop 24).drop 24).take 24).all (fun c => isCode c || c.before args0 about1) = true := by decide +kernel
set_option maxRecDepth 65536 in
theorem w_t4 : ((((words1.drop 24).drop 24).drop 24).take 24).all (fun c => isCode c || c.before args0 about1) = true := by decide +kernel
set_option maxRecDepth 65536 in
theorem w_t5 : (((((words1.drop 24).drop 24).drop 24).drop 24).take 24).all (fun c => isCode c || c.before args0 about1) = true := by decide +kernel
set_option maxRecDepth 65536 in
theorem w_t6 : ((((((words1.drop 24).drop 24).drop 24).drop 24).drop 24).take 24).all (fun c => isCode c || c.before args0 about1) = true := by decide +kernel
set_option maxRecDepth 65536 in
theorem w_t7 : (((((((words1.drop 24).drop 24).drop 24).drop 24).drop 24).drop 24).take 24).all (fun c => isCode c || c.before args0 about1) = true := by decide +kernel
set_option maxRecDepth 65536 in
theorem w_t8 : ((((((((words1.drop 24).drop 24).drop 24).drop 24).drop 24).drop 24).drop 24).take 24).all (fun c => isCode c || c.before args0 about1) = true := by decide +kernel
set_option maxRecDepth 65536 in
theorem w_t9 : (((((((((words1.drop 24).drop 24).drop 24).drop 24).drop 24).drop 24).drop 24).drop 24).take 24).all (fun c => isCode c || c.before args0 about1) = true := by decide +kernel
set_option maxRecDepth 65536 in
theorem w_t10 : (((((((((words1.drop 24).drop 24).drop 24).drop 24).drop 24).drop 24).drop 24).drop 24).drop 24).all (fun c => isCode c || c.before args0 about1) = true := by decide +kernel
theorem w_tables : (allAtoms (Jvm.Cond.code x code maxLocals ret :: tables_1)).before args0 about1 = true := by
  rw [allAtoms_all]
  show words1.all (fun c => c.before args0 about1) = true
  refine all_split ?_ w_codes
  rw [← List.take_append_drop 24 words1, List.all_append, w_t1, ← List.take_append_drop 24 (words1.drop 24), List.all_append, w_t2, ← List.take_append_drop 24 ((words1.drop 24).drop 24), List.all_append, w_t3, ← List.take_append_drop 24 (((words1.drop 24).drop 24).drop 24), List.all_append, w_t4, ← List.take_append_drop 24 ((((words1.drop 24).drop 24).drop 24).drop 24), List.all_append, w_t5, ← List.take_append_drop 24 (((((words1.drop 24).drop 24).drop 24).drop 24).drop 24), List.all_append, w_t6, ← List.take_append_drop 24 ((((((words1.drop 24).drop 24).drop 24).drop 24).drop 24).drop 24), List.all_append, w_t7, ← List.take_append_drop 24 (((((((words1.drop 24).drop 24).drop 24).drop 24).drop 24).drop 24).drop 24), List.all_append, w_t8, ← List.take_append_drop 24 ((((((((words1.drop 24).drop 24).drop 24).drop 24).drop 24).drop 24).drop 24).drop 24), List.all_append, w_t9, w_t10]
  rfl
set_option maxRecDepth 65536 in
theorem w_rest : rest_1_c.before args0 about1 = true := by decide +kernel
set_option maxRecDepth 65536 in
theorem w_case : (Jvm.Cond.and given_1 narrow_1).before args0 about1 = true := by decide +kernel
theorem w_applies : (headSpec (Jvm.Cond.code x code maxLocals ret :: tables_1) room_1).applies x e0.platform about1 = true :=
  (Spec.applies_iff w_frames).mpr ⟨w_running, w_runnable, w_alone, w_named, w_hears, w_ripe, w_room, w_tables⟩
theorem atStart : AtStart classFile x code maxLocals ret World_1 tables_1 room_1 Calls_1 rest_1 Pre_1 launch0 p0 e0 about1 theMethod args0 below0 :=
  ⟨lists_1, trivial, launch0.admits_env _ _ _, launch0.least_env, fairChoices_fair.cas, fairChoices_fair.clock, w_frames, w_args, w_heap, w_applies, trivial, w_rest, w_case⟩
end start1
theorem witness_1 : WitnessClaimed_1 := ⟨start1.p0, start1.e0, start1.about1, start1.theMethod, start1.args0, start1.below0, start1.atStart⟩
end Jvm.Pilot.@@N@@
