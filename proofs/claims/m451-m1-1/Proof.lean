import JvmDerived
import JvmDerived.Pilot.@@N@@Statement
import JvmDerived.Pilot.@@N@@Code
set_option linter.unusedVariables false
set_option linter.unusedSimpArgs false
/- laws to paste: Road.backV (cut by pick.py; bodies as the Statement names them) -/
namespace Jvm.Pilot.@@N@@
namespace StrChars
open Jvm Sem ClassFile Op Lib Jvm.Stand Jvm.Free.XT Jvm.Free.ALB Jvm.Free.JM Jvm.Free
open Jvm.Lib.Cold (StaticIs)
/-- a char array whose places are chars -/
def Ch (a : Addr) (A : Cell) (U : State) : Prop := Arr .char a A U ∧ Typed .char A
theorem Ch.mv {a : Addr} {A : Cell} {U U' : State} (h : Ch a A U) (hal : U.vm.Alike U'.vm) (hh : U'.heap = U.heap) : Ch a A U' := ⟨h.1.mv hal hh, h.2⟩
theorem Ch.keep {a : Addr} {A : Cell} {U U' : State} (h : Ch a A U) (hal : U.vm.Alike U'.vm) (hk : U'.heap[a]? = some A) : Ch a A U' := ⟨h.1.keep hal hk, h.2⟩
/-- what place i of a char[]'s cell holds -/
def cv (A : Cell) (i : Nat) : Int32 := match A.slots[i]? with | some (.int x) => x | _ => 0
theorem Ch.get {a : Addr} {A : Cell} {U : State} (h : Ch a A U) {i : Nat} (hi : i < A.slots.size) : A.slots[i]? = some (.int (cv A i)) := by
  have e := Array.getElem?_eq_getElem hi
  have f := h.2 i _ e
  unfold cv; rw [e]
  generalize A.slots[i] = v at f
  cases v <;> simp [fits] at f ⊢
/-- the byte that i2b leaves of a char -/
def lo8 (x : Int32) : Int32 := x.toInt8.toInt32
theorem fits_lo8 (y : Int32) : fits .byte (.int (lo8 y)) = true := by
  have h1 := y.toInt8.le_toInt
  have h2 := y.toInt8.toInt_lt
  simp only [lo8, fits, Bool.and_eq_true, decide_eq_true_eq, Int32.le_iff_toInt_le, Int8.toInt_toInt32, show (-128 : Int32).toInt = -128 from by decide, show (127 : Int32).toInt = 127 from by decide]
  omega
/-- A' is A but that each place j of lo .. hi - 1 holds f j -/
def Laid (A A' : Cell) (lo hi : Nat) (f : Nat → Value) : Prop := A'.cls = A.cls ∧ A'.vm = A.vm ∧ A'.slots.size = A.slots.size ∧ ∀ i, A'.slots[i]? = if lo ≤ i ∧ i < hi then some (f i) else A.slots[i]?
theorem Laid.zero (A : Cell) (lo : Nat) (f : Nat → Value) : Laid A A lo (lo + 0) f := ⟨rfl, rfl, rfl, fun i => by rw [if_neg (by omega)]⟩
theorem Laid.step {A Ak : Cell} {lo k : Nat} {f : Nat → Value} {v : Value} (h : Laid A Ak lo k f) (hlo : lo ≤ k) (hk : k < Ak.slots.size) (hv : v = f k) : Laid A (Ak.setSlot k v) lo (k + 1) f := by
  refine ⟨h.1, h.2.1, by simpa [Cell.setSlot] using h.2.2.1, fun i => ?_⟩
  by_cases e : k = i
  · subst e; rw [Cell.slots_setSlot_self v hk, if_pos (by omega), hv]
  · rw [Cell.slots_setSlot_ne v e, h.2.2.2 i]
    by_cases q : lo ≤ i ∧ i < k
    · rw [if_pos q, if_pos (by omega)]
    · rw [if_neg q, if_neg (by omega)]
def U16 : String := "java/lang/StringUTF16"
namespace Cmp5
def yN : MethodName := ⟨"java/lang/StringUTF16", "compress", "([CI[BII)I"⟩
abbrev yB : ByteArray := jdk_52_method_21_code
theorem d0 : decode yB 0 = .ok (.iconst 0, 1) := by decide +kernel
theorem d1 : decode yB 1 = .ok (.istore 5, 2) := by decide +kernel
theorem d3 : decode yB 3 = .ok (.iload 5, 2) := by decide +kernel
theorem d5 : decode yB 5 = .ok (.iload 4, 2) := by decide +kernel
theorem d7 : decode yB 7 = .ok (.if_icmp (.ge) 37, 3) := by decide +kernel
theorem d10 : decode yB 10 = .ok (.aload_n 0, 1) := by decide +kernel
theorem d11 : decode yB 11 = .ok (.iload_n 1, 1) := by decide +kernel
theorem d12 : decode yB 12 = .ok (.caload, 1) := by decide +kernel
theorem d13 : decode yB 13 = .ok (.istore 6, 2) := by decide +kernel
theorem d15 : decode yB 15 = .ok (.iload 6, 2) := by decide +kernel
theorem d17 : decode yB 17 = .ok (.sipush 255, 3) := by decide +kernel
theorem d20 : decode yB 20 = .ok (.if_icmp (.le) 6, 3) := by decide +kernel
theorem d26 : decode yB 26 = .ok (.aload_n 2, 1) := by decide +kernel
theorem d27 : decode yB 27 = .ok (.iload_n 3, 1) := by decide +kernel
theorem d28 : decode yB 28 = .ok (.iload 6, 2) := by decide +kernel
theorem d30 : decode yB 30 = .ok (.i2b, 1) := by decide +kernel
theorem d31 : decode yB 31 = .ok (.bastore, 1) := by decide +kernel
theorem d32 : decode yB 32 = .ok (.iinc 1 1, 3) := by decide +kernel
theorem d35 : decode yB 35 = .ok (.iinc 3 1, 3) := by decide +kernel
theorem d38 : decode yB 38 = .ok (.iinc 5 1, 3) := by decide +kernel
theorem d41 : decode yB 41 = .ok (.goto (-38), 3) := by decide +kernel
theorem d44 : decode yB 44 = .ok (.iload 4, 2) := by decide +kernel
theorem d46 : decode yB 46 = .ok (.ireturn, 1) := by decide +kernel
def site : List Cond := []
def tab : Cond := tabOf yN yB 7 (some .int) site
def P (b : Addr) (A : Cell) (d : Addr) (B : Cell) (o q len : Nat) (args : Array Value) (s : State) : Prop := args = #[.ref b, .int (Int32.ofNat o), .ref d, .int (Int32.ofNat q), .int (Int32.ofNat len)] ∧ Ch b A s ∧ Arr .byte d B s ∧ b ≠ d ∧ o + len ≤ A.slots.size ∧ q + len ≤ B.slots.size ∧ ∀ i, i < len → ¬ 255 < cv A (o + i)
def E (b : Addr) (A : Cell) (d : Addr) (B : Cell) (o q len : Nat) (r : Option Value) (s u : State) : Prop := r = some (.int (Int32.ofNat len)) ∧ ∃ B', Put d B' s u ∧ Laid B B' q (q + len) (fun j => Value.int (lo8 (cv A (o + (j - q)))))
/-- no char of the range above 255: len; the places written hold each char's low byte -/
theorem law (l : Launch) (b : Addr) (A : Cell) (d : Addr) (B : Cell) (o q len : Nat) : Law l yN 5 5 0 0 yB 7 (some .int) site (P b A d B o q len) (E b A d B o q len) (copyLocs d q len) 0 0 := by
  refine Law.of_walk (plainFor_of_name (by decide +kernel)) (by decide +kernel) (by decide +kernel) (by decide) (fun _ _ h => by rw [h.1]; rfl) (fun _ U U' hal hh h => ⟨h.1, h.2.1.mv hal hh, h.2.2.1.mv hal hh, h.2.2.2⟩) (fun r U U' V V' h1 hal h2 h => ⟨h.1, h.2.elim fun B' q => ⟨B', q.1.mv h1 h2, q.2⟩⟩) ?_
  intro p e s m args below meth c s₁ X0 hexec hbytes hml hret hlk hnm hown hh0 W hP
  obtain ⟨rfl, hA, hB, hne, l1, l2, hp⟩ := hP
  have c1 : Steps p.tables e below (s₁.setTop (entryFrame m #[.ref b, .int (Int32.ofNat o), .ref d, .int (Int32.ofNat q), .int (Int32.ofNat len)] 7)) (s₁.setTop (mkF m 0 #[.val (.ref b), .val (.int (Int32.ofNat o)), .val (.ref d), .val (.int (Int32.ofNat q)), .val (.int (Int32.ofNat len)), .unset, .unset] [])) := entry rfl
  have hA0 := hA.1.mv X0.warmed.alike hh0
  have hB0 := hB.mv X0.warmed.alike hh0
  have a31 := hA.1.2.2.2
  have c2 : Steps p.tables e below (s₁.setTop (entryFrame m #[.ref b, .int (Int32.ofNat o), .ref d, .int (Int32.ofNat q), .int (Int32.ofNat len)] 7)) (s₁.setTop (mkF m 3 #[.val (.ref b), .val (.int (Int32.ofNat o)), .val (.ref d), .val (.int (Int32.ofNat q)), .val (.int (Int32.ofNat len)), .val (.int 0), .unset] [])) := c1.trans (by
    refine iconstV X0.here hexec rfl 0 (hb hbytes d0) (by decide) ?_
    refine XS.istore X0.here hexec rfl (hb hbytes d1) rfl rfl ?_
    exact Steps.refl _)
  have loop : ∀ (r i : Nat), i + r = len → ∀ (z : Slot), (z = .unset ∨ ∃ w, z = .val w ∧ w.category = 1) → ∀ (Tl : State) (Bk : Cell), Stand p l e { frames := 0, locals := 0, cells := 0, slots := 0 } s m #[.ref b, .int (Int32.ofNat o), .ref d, .int (Int32.ofNat q), .int (Int32.ofNat len)] below meth c Tl ([] ++ copyLocs d q i) 0 0 → Put d Bk s₁ Tl → Laid B Bk q (q + i) (fun j => Value.int (lo8 (cv A (o + (j - q))))) →
      Steps p.tables e below (s₁.setTop (entryFrame m #[.ref b, .int (Int32.ofNat o), .ref d, .int (Int32.ofNat q), .int (Int32.ofNat len)] 7)) (Tl.setTop (mkF m 3 #[.val (.ref b), .val (.int (Int32.ofNat (o + i))), .val (.ref d), .val (.int (Int32.ofNat (q + i))), .val (.int (Int32.ofNat len)), .val (.int (Int32.ofNat i)), z] [])) → ∃ (T' : State) (B' : Cell) (z' : Slot), Stand p l e { frames := 0, locals := 0, cells := 0, slots := 0 } s m #[.ref b, .int (Int32.ofNat o), .ref d, .int (Int32.ofNat q), .int (Int32.ofNat len)] below meth c T' ([] ++ copyLocs d q len) 0 0 ∧ Put d B' s₁ T' ∧ Laid B B' q (q + len) (fun j => Value.int (lo8 (cv A (o + (j - q))))) ∧
      Steps p.tables e below (s₁.setTop (entryFrame m #[.ref b, .int (Int32.ofNat o), .ref d, .int (Int32.ofNat q), .int (Int32.ofNat len)] 7)) (T'.setTop (mkF m 3 #[.val (.ref b), .val (.int (Int32.ofNat (o + len))), .val (.ref d), .val (.int (Int32.ofNat (q + len))), .val (.int (Int32.ofNat len)), .val (.int (Int32.ofNat len)), z'] [])) := by
    intro r
    induction r with
    | zero =>
      intro i hi z hz Tl Bk Xl pl fl cl
      have hil : i = len := by omega
      rw [hil] at Xl fl cl
      exact ⟨Tl, Bk, z, Xl, pl, fl, cl⟩
    | succ r ih =>
      intro i hi z hz Tl Bk Xl pl fl cl
      have all := X0.warmed.alike.symm.trans Xl.warmed.alike
      have hAl := hA0.keep all (pl.other hne hA0.1)
      have hBk := hB0.like all pl.1 fl.1 fl.2.1 fl.2.2.1
      have hlt : q + i < Bk.slots.size := by rw [fl.2.2.1]; omega
      have c3 : Steps p.tables e below (s₁.setTop (entryFrame m #[.ref b, .int (Int32.ofNat o), .ref d, .int (Int32.ofNat q), .int (Int32.ofNat len)] 7)) (Tl.setTop (mkF m 12 #[.val (.ref b), .val (.int (Int32.ofNat (o + i))), .val (.ref d), .val (.int (Int32.ofNat (q + i))), .val (.int (Int32.ofNat len)), .val (.int (Int32.ofNat i)), z] [.int (Int32.ofNat (o + i)), .ref b])) := cl.trans (by
        refine XS.iload Xl.here hexec rfl (hb hbytes d3) rfl ?_
        refine XS.iload Xl.here hexec rfl (hb hbytes d5) rfl ?_
        refine XS.icmpNo Xl.here hexec rfl (hb hbytes d7) rfl (ii_ge_f (lt32 (by omega) (by omega))) ?_
        refine XS.aloadN Xl.here hexec rfl (hb hbytes d10) rfl rfl ?_
        refine XS.iloadN Xl.here hexec rfl (hb hbytes d11) rfl ?_
        exact Steps.refl _)
      have c4 : Steps p.tables e below (s₁.setTop (entryFrame m #[.ref b, .int (Int32.ofNat o), .ref d, .int (Int32.ofNat q), .int (Int32.ofNat len)] 7)) (Tl.setTop (mkF m 13 #[.val (.ref b), .val (.int (Int32.ofNat (o + i))), .val (.ref d), .val (.int (Int32.ofNat (q + i))), .val (.int (Int32.ofNat len)), .val (.int (Int32.ofNat i)), z] [.int (cv A (o + i))])) := c3.trans (by
        refine Xl.aget hexec hAl rfl (hA.get (i := o + i) (by omega)) rfl rfl (hb hbytes d12) ?_
        exact Steps.refl _)
      have c5 : Steps p.tables e below (s₁.setTop (entryFrame m #[.ref b, .int (Int32.ofNat o), .ref d, .int (Int32.ofNat q), .int (Int32.ofNat len)] 7)) (Tl.setTop (mkF m 15 #[.val (.ref b), .val (.int (Int32.ofNat (o + i))), .val (.ref d), .val (.int (Int32.ofNat (q + i))), .val (.int (Int32.ofNat len)), .val (.int (Int32.ofNat i)), .val (.int (cv A (o + i)))] [])) := c4.trans (by
        refine XS.istoreS Xl.here hexec rfl (hb hbytes d13) rfl rfl hz ?_
        exact Steps.refl _)
      have c6 : Steps p.tables e below (s₁.setTop (entryFrame m #[.ref b, .int (Int32.ofNat o), .ref d, .int (Int32.ofNat q), .int (Int32.ofNat len)] 7)) (Tl.setTop (mkF m 31 #[.val (.ref b), .val (.int (Int32.ofNat (o + i))), .val (.ref d), .val (.int (Int32.ofNat (q + i))), .val (.int (Int32.ofNat len)), .val (.int (Int32.ofNat i)), .val (.int (cv A (o + i)))] [.int (lo8 (cv A (o + i))), .int (Int32.ofNat (q + i)), .ref d])) := c5.trans (by
        refine XS.iload Xl.here hexec rfl (hb hbytes d15) rfl ?_
        refine sipushV Xl.here hexec rfl 255 (hb hbytes d17) (by decide) ?_
        refine XS.icmpYes Xl.here hexec rfl (pc0 := 20) rfl (hb hbytes d20) rfl (ii_le_t (hp i (by omega))) (by decide) rfl ?_
        refine XS.aloadN Xl.here hexec rfl (hb hbytes d26) rfl rfl ?_
        refine XS.iloadN Xl.here hexec rfl (hb hbytes d27) rfl ?_
        refine XS.iload Xl.here hexec rfl (hb hbytes d28) rfl ?_
        refine i2b Xl.here hexec rfl (hb hbytes d30) rfl ?_
        exact Steps.refl _)
      obtain ⟨T7, X7, p7, st7⟩ := Xl.aput hexec hBk rfl hlt rfl (fits_lo8 (cv A (o + i))) (g := (mkF m 31 #[.val (.ref b), .val (.int (Int32.ofNat (o + i))), .val (.ref d), .val (.int (Int32.ofNat (q + i))), .val (.int (Int32.ofNat len)), .val (.int (Int32.ofNat i)), .val (.int (cv A (o + i)))] [.int (lo8 (cv A (o + i))), .int (Int32.ofNat (q + i)), .ref d])) rfl (rest := []) rfl (hb hbytes d31)
      have c8 : Steps p.tables e below (s₁.setTop (entryFrame m #[.ref b, .int (Int32.ofNat o), .ref d, .int (Int32.ofNat q), .int (Int32.ofNat len)] 7)) (T7.setTop (mkF m 32 #[.val (.ref b), .val (.int (Int32.ofNat (o + i))), .val (.ref d), .val (.int (Int32.ofNat (q + i))), .val (.int (Int32.ofNat len)), .val (.int (Int32.ofNat i)), .val (.int (cv A (o + i)))] [])) := c6.trans (st7 _ (Steps.refl _))
      have c9 : Steps p.tables e below (s₁.setTop (entryFrame m #[.ref b, .int (Int32.ofNat o), .ref d, .int (Int32.ofNat q), .int (Int32.ofNat len)] 7)) (T7.setTop (mkF m 3 #[.val (.ref b), .val (.int (Int32.ofNat (o + i) + 1)), .val (.ref d), .val (.int (Int32.ofNat (q + i) + 1)), .val (.int (Int32.ofNat len)), .val (.int (Int32.ofNat i + 1)), .val (.int (cv A (o + i)))] [])) := c8.trans (by
        refine iincV X7.here hexec rfl 1 (hb hbytes d32) (by decide) rfl rfl ?_
        refine iincV X7.here hexec rfl 1 (hb hbytes d35) (by decide) rfl rfl ?_
        refine iincV X7.here hexec rfl 1 (hb hbytes d38) (by decide) rfl rfl ?_
        refine XS.goto X7.here hexec rfl (pc0 := 41) rfl (hb hbytes d41) (by decide) rfl ?_
        exact Steps.refl _)
      have c10 : Steps p.tables e below (s₁.setTop (entryFrame m #[.ref b, .int (Int32.ofNat o), .ref d, .int (Int32.ofNat q), .int (Int32.ofNat len)] 7)) (T7.setTop (mkF m 3 #[.val (.ref b), .val (.int (Int32.ofNat (o + (i + 1)))), .val (.ref d), .val (.int (Int32.ofNat (q + (i + 1)))), .val (.int (Int32.ofNat len)), .val (.int (Int32.ofNat (i + 1))), .val (.int (cv A (o + i)))] [])) := by
        have := c9
        rw [succ32, succ32, succ32] at this
        exact this
      exact ih (i + 1) (by omega) _ (Or.inr ⟨_, rfl, rfl⟩) T7 _ (by rw [copyLocs_step, ← List.append_assoc]; exact X7) (pl.trans p7) (fl.step (by omega) hlt (by simp)) c10
  obtain ⟨T9, B9, z9, X9, p9, f9, g9⟩ := loop len 0 (by omega) .unset (Or.inl rfl) s₁ B (by simpa [copyLocs] using X0) ⟨hB0.1, fun _ _ => rfl, rfl⟩ (Laid.zero _ _ _) c2
  have c11 : Steps p.tables e below (s₁.setTop (entryFrame m #[.ref b, .int (Int32.ofNat o), .ref d, .int (Int32.ofNat q), .int (Int32.ofNat len)] 7)) (T9.setTop (mkF m 46 #[.val (.ref b), .val (.int (Int32.ofNat (o + len))), .val (.ref d), .val (.int (Int32.ofNat (q + len))), .val (.int (Int32.ofNat len)), .val (.int (Int32.ofNat len)), z9] [.int (Int32.ofNat len)])) := g9.trans (by
    refine XS.iload X9.here hexec rfl (hb hbytes d3) rfl ?_
    refine XS.iload X9.here hexec rfl (hb hbytes d5) rfl ?_
    refine XS.icmpYes X9.here hexec rfl (pc0 := 7) rfl (hb hbytes d7) rfl (ii_ge_t (nlt32 (by omega) (Nat.le_refl _))) (by decide) rfl ?_
    refine XS.iload X9.here hexec rfl (hb hbytes d44) rfl ?_
    exact Steps.refl _)
  exact ⟨T9, some (.int (Int32.ofNat len)), _, _, _, X9, by simp, rfl, rfl, (fun h => by cases h), ⟨rfl, B9, p9.from hh0, f9⟩, fun fs hl => c11.trans (X9.ireturnOut hexec hret rfl (Or.inl rfl) (hb hbytes d46) hl)⟩
end Cmp5
namespace Cmp3
def yN : MethodName := ⟨"java/lang/StringUTF16", "compress", "([CII)[B"⟩
abbrev yB : ByteArray := jdk_52_method_16_code
theorem d0 : decode yB 0 = .ok (.iload_n 2, 1) := by decide +kernel
theorem d1 : decode yB 1 = .ok (.newarray .byte, 2) := by decide +kernel
theorem d3 : decode yB 3 = .ok (.astore_n 3, 1) := by decide +kernel
theorem d4 : decode yB 4 = .ok (.aload_n 0, 1) := by decide +kernel
theorem d5 : decode yB 5 = .ok (.iload_n 1, 1) := by decide +kernel
theorem d6 : decode yB 6 = .ok (.aload_n 3, 1) := by decide +kernel
theorem d7 : decode yB 7 = .ok (.iconst 0, 1) := by decide +kernel
theorem d8 : decode yB 8 = .ok (.iload_n 2, 1) := by decide +kernel
theorem d9 : decode yB 9 = .ok (.invokestatic 115, 3) := by decide +kernel
theorem d12 : decode yB 12 = .ok (.istore 4, 2) := by decide +kernel
theorem d14 : decode yB 14 = .ok (.iload 4, 2) := by decide +kernel
theorem d16 : decode yB 16 = .ok (.iload_n 2, 1) := by decide +kernel
theorem d17 : decode yB 17 = .ok (.if_icmp (.eq) 40, 3) := by decide +kernel
theorem d57 : decode yB 57 = .ok (.aload_n 3, 1) := by decide +kernel
theorem d58 : decode yB 58 = .ok (.areturn, 1) := by decide +kernel
def site : List Cond := [.arrayClass .byte, Cmp5.tab] ++ staticW U16 115 Cmp5.yN
def tab : Cond := tabOf yN yB 6 (some (.array .byte)) site
def P (b : Addr) (A : Cell) (o len : Nat) (args : Array Value) (s : State) : Prop := args = #[.ref b, .int (Int32.ofNat o), .int (Int32.ofNat len)] ∧ Ch b A s ∧ o + len ≤ A.slots.size ∧ len ≤ 536870912 ∧ ∀ i, i < len → ¬ 255 < cv A (o + i)
def E (b : Addr) (A : Cell) (o len : Nat) (r : Option Value) (s u : State) : Prop := NewArr .byte "[B" len (fun j => .int (lo8 (cv A (o + j)))) r s u ∧ u.heap.size = s.heap.size + 1
/-- no char of the range above 255: a new byte[] of their low bytes -/
theorem law (l : Launch) (b : Addr) (A : Cell) (o len : Nat) : Law l yN 3 3 1 18 yB 6 (some (.array .byte)) site (P b A o len) (E b A o len) [] 1 len := by
  refine Law.of_walk (plainFor_of_name (by decide +kernel)) (by decide +kernel) (by decide +kernel) (by decide) (fun _ _ h => by rw [h.1]; rfl) (fun _ U U' hal hh h => ⟨h.1, h.2.1.mv hal hh, h.2.2⟩) (fun r U U' V V' h1 hal h2 h => ⟨NewArr.mv r U U' V V' h1 hal h2 h.1, by rw [h1, h2]; exact h.2⟩) ?_
  intro p e s m args below meth c s₁ X0 hexec hbytes hml hret hlk hnm hown hh0 W hP
  obtain ⟨rfl, hA, l1, l2, hp⟩ := hP
  have a31 := hA.1.2.2.2
  have c1 : Steps p.tables e below (s₁.setTop (entryFrame m #[.ref b, .int (Int32.ofNat o), .int (Int32.ofNat len)] 6)) (s₁.setTop (mkF m 0 #[.val (.ref b), .val (.int (Int32.ofNat o)), .val (.int (Int32.ofNat len)), .unset, .unset, .unset] [])) := entry rfl
  have c2 : Steps p.tables e below (s₁.setTop (entryFrame m #[.ref b, .int (Int32.ofNat o), .int (Int32.ofNat len)] 6)) (s₁.setTop (mkF m 1 #[.val (.ref b), .val (.int (Int32.ofNat o)), .val (.int (Int32.ofNat len)), .unset, .unset, .unset] [.int (Int32.ofNat len)])) := c1.trans (by
    refine XS.iloadN X0.here hexec rfl (hb hbytes d0) rfl ?_
    exact Steps.refl _)
  obtain ⟨T3, B3, X3, ba3, bs3, bv3, bh3, bf3, st3⟩ := X0.anew hexec (atype := .byte) (wk W (.arrayClass .byte)) rfl (by show len * 1 ≤ _; omega) (by omega) (g := (mkF m 1 #[.val (.ref b), .val (.int (Int32.ofNat o)), .val (.int (Int32.ofNat len)), .unset, .unset, .unset] [.int (Int32.ofNat len)])) rfl (hb hbytes d1) (rest := []) rfl (Nat.le_refl _) (by show 0 + len ≤ len; omega)
  rw [hh0] at ba3 st3
  have kp3 : XT.Kept s T3 := (XT.Kept.of_eq hh0).push bh3
  have hA3 := hA.keep X3.warmed.alike (kp3 _ _ hA.1.1)
  have hne : b ≠ s.heap.size := hA.1.ne
  have c4 : Steps p.tables e below (s₁.setTop (entryFrame m #[.ref b, .int (Int32.ofNat o), .int (Int32.ofNat len)] 6)) (T3.setTop (mkF m 3 #[.val (.ref b), .val (.int (Int32.ofNat o)), .val (.int (Int32.ofNat len)), .unset, .unset, .unset] [.ref s.heap.size])) := c2.trans (st3 _ (Steps.refl _))
  have c5 : Steps p.tables e below (s₁.setTop (entryFrame m #[.ref b, .int (Int32.ofNat o), .int (Int32.ofNat len)] 6)) (T3.setTop (mkF m 9 #[.val (.ref b), .val (.int (Int32.ofNat o)), .val (.int (Int32.ofNat len)), .val (.ref s.heap.size), .unset, .unset] [.int (Int32.ofNat len), .int 0, .ref s.heap.size, .int (Int32.ofNat o), .ref b])) := c4.trans (by
    refine XS.astoreN X3.here hexec rfl (hb hbytes d3) rfl rfl rfl ?_
    refine XS.aloadN X3.here hexec rfl (hb hbytes d4) rfl rfl ?_
    refine XS.iloadN X3.here hexec rfl (hb hbytes d5) rfl ?_
    refine XS.aloadN X3.here hexec rfl (hb hbytes d6) rfl rfl ?_
    refine iconstV X3.here hexec rfl 0 (hb hbytes d7) (by decide) ?_
    refine XS.iloadN X3.here hexec rfl (hb hbytes d8) rfl ?_
    exact Steps.refl _)
  obtain ⟨v6, T6, X6, E6, g6⟩ := X3.callS hexec (Cmp5.law l b A s.heap.size B3 o 0 len) hown (wks W (staticW U16 115 Cmp5.yN)) (wk W Cmp5.tab) (W := 0) (Nat.le_of_ble_eq_true rfl) (Nat.le_of_ble_eq_true rfl) (Nat.le_refl _) (by show 0 + len + 0 ≤ len; omega) (g := (mkF m 9 #[.val (.ref b), .val (.int (Int32.ofNat o)), .val (.int (Int32.ofNat len)), .val (.ref s.heap.size), .unset, .unset] [.int (Int32.ofNat len), .int (Int32.ofNat 0), .ref s.heap.size, .int (Int32.ofNat o), .ref b])) rfl (by rw [hml]; rfl) c5 (argsL := [.ref b, .int (Int32.ofNat o), .ref s.heap.size, .int (Int32.ofNat 0), .int (Int32.ofNat len)]) (rest := []) rfl rfl (by show 2 * 0 + 0 ≤ _; decide) (hb hbytes d9) (⟨rfl, hA3, ba3, hne, l1, by rw [bs3]; simp, hp⟩)
  obtain ⟨rfl, B6, p6, f6⟩ := E6
  have c7 : Steps p.tables e below (s₁.setTop (entryFrame m #[.ref b, .int (Int32.ofNat o), .int (Int32.ofNat len)] 6)) (T6.setTop (mkF m 12 #[.val (.ref b), .val (.int (Int32.ofNat o)), .val (.int (Int32.ofNat len)), .val (.ref s.heap.size), .unset, .unset] [.int (Int32.ofNat len)])) := g6
  have c8 : Steps p.tables e below (s₁.setTop (entryFrame m #[.ref b, .int (Int32.ofNat o), .int (Int32.ofNat len)] 6)) (T6.setTop (mkF m 58 #[.val (.ref b), .val (.int (Int32.ofNat o)), .val (.int (Int32.ofNat len)), .val (.ref s.heap.size), .val (.int (Int32.ofNat len)), .unset] [.ref s.heap.size])) := c7.trans (by
    refine XS.istore X6.here hexec rfl (hb hbytes d12) rfl rfl ?_
    refine XS.iload X6.here hexec rfl (hb hbytes d14) rfl ?_
    refine XS.iloadN X6.here hexec rfl (hb hbytes d16) rfl ?_
    refine XS.icmpYes X6.here hexec rfl (pc0 := 17) rfl (hb hbytes d17) rfl (ii_eq_t rfl) (by decide) rfl ?_
    refine XS.aloadN X6.here hexec rfl (hb hbytes d57) rfl rfl ?_
    exact Steps.refl _)
  have X8 := X6.wide (L' := []) (cells' := 1) (slots' := len) (fun x hx hlt => by
    simp only [List.nil_append, copyLocs, List.mem_map, List.mem_range] at hx
    obtain ⟨i, -, rfl⟩ := hx
    exact absurd hlt (Nat.lt_irrefl _)) (Nat.le_refl _) (by omega)
  exact ⟨T6, some (.ref s.heap.size), _, _, _, X8, rfl, rfl, rfl, (fun h => by cases h), ⟨⟨rfl, B6, ba3.like (X3.warmed.alike.symm.trans X6.warmed.alike) p6.1 f6.1 f6.2.1 f6.2.2.1, f6.2.1.trans bv3, by rw [X6.warmed.alike.findClass, f6.1]; exact bf3, by rw [f6.2.2.1, bs3]; simp, fun j hj => by rw [f6.2.2.2 j, if_pos (by omega)]; rfl, kp3.put p6 (Nat.le_refl _)⟩, by rw [p6.2.2, bh3, hh0]; simp⟩, fun fs hl => c8.trans (X8.areturnOut hexec rfl hret rfl (hb hbytes d58) hl)⟩
end Cmp3
namespace CodL
def yN : MethodName := ⟨"java/lang/StringUTF16", "coderFromArrayLen", "([BI)B"⟩
abbrev yB : ByteArray := jdk_52_method_15_code
theorem d0 : decode yB 0 = .ok (.iload_n 1, 1) := by decide +kernel
theorem d1 : decode yB 1 = .ok (.aload_n 0, 1) := by decide +kernel
theorem d2 : decode yB 2 = .ok (.arraylength, 1) := by decide +kernel
theorem d3 : decode yB 3 = .ok (.isub, 1) := by decide +kernel
theorem d4 : decode yB 4 = .ok (.bipush 31, 2) := by decide +kernel
theorem d6 : decode yB 6 = .ok (.iushr, 1) := by decide +kernel
theorem d7 : decode yB 7 = .ok (.i2b, 1) := by decide +kernel
theorem d8 : decode yB 8 = .ok (.ireturn, 1) := by decide +kernel
def site : List Cond := []
def tab : Cond := tabOf yN yB 2 (some .byte) site
def P (d : Addr) (B : Cell) (args : Array Value) (s : State) : Prop := args = #[.ref d, .int (Int32.ofNat B.slots.size)] ∧ Arr .byte d B s
def E (r : Option Value) (s u : State) : Prop := XT.PureE (some (.int 0)) r s u
/-- an array as long as the number of chars: LATIN1 -/
theorem law (l : Launch) (d : Addr) (B : Cell) : Law l yN 2 2 0 0 yB 2 (some .byte) site (P d B) E [] 0 0 := by
  refine Law.of_walk (plainFor_of_name (by decide +kernel)) (by decide +kernel) (by decide +kernel) (by decide) (fun _ _ h => by rw [h.1]; rfl) (fun _ U U' hal hh h => ⟨h.1, h.2.mv hal hh⟩) (fun r U U' V V' h1 hal h2 h => XT.PureE.mv r U U' V V' h1 hal h2 h) ?_
  intro p e s m args below meth c s₁ X0 hexec hbytes hml hret hlk hnm hown hh0 W hP
  obtain ⟨rfl, hB⟩ := hP
  have hB0 := hB.mv X0.warmed.alike hh0
  have c1 : Steps p.tables e below (s₁.setTop (entryFrame m #[.ref d, .int (Int32.ofNat B.slots.size)] 2)) (s₁.setTop (mkF m 0 #[.val (.ref d), .val (.int (Int32.ofNat B.slots.size))] [])) := entry rfl
  have c2 : Steps p.tables e below (s₁.setTop (entryFrame m #[.ref d, .int (Int32.ofNat B.slots.size)] 2)) (s₁.setTop (mkF m 2 #[.val (.ref d), .val (.int (Int32.ofNat B.slots.size))] [.ref d, .int (Int32.ofNat B.slots.size)])) := c1.trans (by
    refine XS.iloadN X0.here hexec rfl (hb hbytes d0) rfl ?_
    refine XS.aloadN X0.here hexec rfl (hb hbytes d1) rfl rfl ?_
    exact Steps.refl _)
  have c3 : Steps p.tables e below (s₁.setTop (entryFrame m #[.ref d, .int (Int32.ofNat B.slots.size)] 2)) (s₁.setTop (mkF m 8 #[.val (.ref d), .val (.int (Int32.ofNat B.slots.size))] [.int (lo8 (ushr (Int32.ofNat B.slots.size - Int32.ofNat B.slots.size) 31))])) := c2.trans (by
    refine X0.alen hexec hB0 rfl rfl (hb hbytes d2) ?_
    refine XS.isub X0.here hexec rfl (hb hbytes d3) rfl ?_
    refine bipushV X0.here hexec rfl 31 (hb hbytes d4) (by decide) ?_
    refine iushr X0.here hexec rfl (hb hbytes d6) rfl ?_
    refine i2b X0.here hexec rfl (hb hbytes d7) rfl ?_
    exact Steps.refl _)
  have e0 : lo8 (ushr (Int32.ofNat B.slots.size - Int32.ofNat B.slots.size) 31) = 0 := by rw [Int32.sub_self]; decide
  rw [e0] at c3
  exact ⟨s₁, some (.int 0), _, _, _, X0, rfl, rfl, rfl, (fun h => by cases h), ⟨rfl, hh0⟩, fun fs hl => c3.trans (X0.ireturnOut hexec hret rfl (Or.inr (Or.inr (Or.inl rfl))) (hb hbytes d8) hl)⟩
end CodL
/-- the String at a is Latin-1 over a new byte[] (the heap's one new cell): the low bytes of the len chars of A from o on; every cell but a is kept -/
def Got (a : Addr) (D : Cell) (fV fC : Field) (A : Cell) (o len : Nat) (r : Option Value) (s u : State) : Prop := r = none ∧ ∃ D' V : Cell, Blank "java/lang/String" a D' u ∧ Same D D' [fV.slot, fC.slot] ∧ D'.slots[fV.slot]? = some (.ref s.heap.size) ∧ D'.slots[fC.slot]? = some (.int 0) ∧ Arr .byte s.heap.size V u ∧ V.vm = .none ∧ u.vm.findClass "[B" = some V.cls ∧ V.slots.size = len ∧ (∀ j, j < len → V.slots[j]? = some (.int (lo8 (cv A (o + j))))) ∧ (∀ (y : Addr) (c : Cell), y ≠ a → s.heap[y]? = some c → u.heap[y]? = some c) ∧ u.heap.size = s.heap.size + 1
theorem Got.mv {a : Addr} {D A : Cell} {fV fC : Field} {o len : Nat} : ∀ r (U U' V V' : State), U'.heap = U.heap → V.vm.Alike V'.vm → V'.heap = V.heap → Got a D fV fC A o len r U V → Got a D fV fC A o len r U' V' :=
  fun r U U' V V' h1 hal h2 ⟨e0, D', X, a1, a2, a3, a4, a5, a6, a7, a8, a9, a10, a11⟩ => ⟨e0, D', X, a1.mv hal h2, a2, by rw [h1]; exact a3, a4, by rw [h1]; exact a5.mv hal h2, a6, by rw [hal.findClass]; exact a7, a8, a9, by rw [h1, h2]; exact a10, by rw [h1, h2]; exact a11⟩
namespace New4
def yN : MethodName := ⟨"java/lang/String", "<init>", "([CIILjava/lang/Void;)V"⟩
abbrev yB : ByteArray := jdk_42_method_149_code
theorem d0 : decode yB 0 = .ok (.aload_n 0, 1) := by decide +kernel
theorem d1 : decode yB 1 = .ok (.invokespecial 1, 3) := by decide +kernel
theorem d4 : decode yB 4 = .ok (.iload_n 3, 1) := by decide +kernel
theorem d5 : decode yB 5 = .ok (.ifCond (.ne) 22, 3) := by decide +kernel
theorem d27 : decode yB 27 = .ok (.getstatic 38, 3) := by decide +kernel
theorem d30 : decode yB 30 = .ok (.ifCond (.eq) 28, 3) := by decide +kernel
theorem d33 : decode yB 33 = .ok (.aload_n 1, 1) := by decide +kernel
theorem d34 : decode yB 34 = .ok (.iload_n 2, 1) := by decide +kernel
theorem d35 : decode yB 35 = .ok (.iload_n 3, 1) := by decide +kernel
theorem d36 : decode yB 36 = .ok (.invokestatic 177, 3) := by decide +kernel
theorem d39 : decode yB 39 = .ok (.astore 5, 2) := by decide +kernel
theorem d41 : decode yB 41 = .ok (.aload_n 0, 1) := by decide +kernel
theorem d42 : decode yB 42 = .ok (.aload 5, 2) := by decide +kernel
theorem d44 : decode yB 44 = .ok (.iload_n 3, 1) := by decide +kernel
theorem d45 : decode yB 45 = .ok (.invokestatic 47, 3) := by decide +kernel
theorem d48 : decode yB 48 = .ok (.putfield 15, 3) := by decide +kernel
theorem d51 : decode yB 51 = .ok (.aload_n 0, 1) := by decide +kernel
theorem d52 : decode yB 52 = .ok (.aload 5, 2) := by decide +kernel
theorem d54 : decode yB 54 = .ok (.putfield 9, 3) := by decide +kernel
theorem d57 : decode yB 57 = .ok (.return_, 1) := by decide +kernel
def site : List Cond := [.fieldLink "java/lang/String" 38 "java/lang/String" "COMPACT_STRINGS" "Z", Cmp3.tab, CodL.tab, .laysFinal "java/lang/String" "java/lang/String" "value" "[B", .fieldLink "java/lang/String" 9 "java/lang/String" "value" "[B", .laysFinal "java/lang/String" "java/lang/String" "coder" "B", .fieldLink "java/lang/String" 15 "java/lang/String" "coder" "B"] ++ objW "java/lang/String" 1 ++ staticW "java/lang/String" 177 Cmp3.yN ++ staticW "java/lang/String" 47 CodL.yN
def tab : Cond := tabOf yN yB 6 none site
def P (a : Addr) (D : Cell) (fV fC : Field) (b : Addr) (A : Cell) (z : Int32) (o len : Nat) (args : Array Value) (s : State) : Prop := args = #[.ref a, .ref b, .int (Int32.ofNat o), .int (Int32.ofNat len), .null] ∧ Blank "java/lang/String" a D s ∧ Found "java/lang/String" "value" "[B" fV s ∧ Found "java/lang/String" "coder" "B" fC s ∧ Ch b A s ∧ StaticIs s "java/lang/String" "COMPACT_STRINGS" "Z" (.int z) ∧ ¬ z = 0 ∧ 0 < len ∧ o + len ≤ A.slots.size ∧ len ≤ 536870912 ∧ ∀ i, i < len → ¬ 255 < cv A (o + i)
def E (a : Addr) (D : Cell) (fV fC : Field) (A : Cell) (o len : Nat) (r : Option Value) (s u : State) : Prop := Got a D fV fC A o len r s u
/-- len > 0, no char of the range above 255: a Latin-1 String of their low bytes -/
theorem law (l : Launch) (a : Addr) (D : Cell) (fV fC : Field) (b : Addr) (A : Cell) (z : Int32) (o len : Nat) : Law l yN 5 4 2 35 yB 6 none site (P a D fV fC b A z o len) (E a D fV fC A o len) [⟨a, fC.slot⟩, ⟨a, fV.slot⟩] 1 len := by
  refine Law.of_walk (plainFor_of_name (by decide +kernel)) (by decide +kernel) (by decide +kernel) (by decide) (fun _ _ h => by rw [h.1]; rfl) (fun _ U U' hal hh h => ⟨h.1, h.2.1.mv hal hh, h.2.2.1.al hal, h.2.2.2.1.al hal, h.2.2.2.2.1.mv hal hh, h.2.2.2.2.2.1.there hal hh, h.2.2.2.2.2.2⟩) (fun r U U' V V' h1 hal h2 h => Got.mv r U U' V V' h1 hal h2 h) ?_
  intro p e s m args below meth c s₁ X0 hexec hbytes hml hret hlk hnm hown hh0 W hP
  obtain ⟨rfl, hB, f1, f2, hA, s1, hz, l0, l1, l2, hp⟩ := hP
  have a31 := hA.1.2.2.2
  have c1 : Steps p.tables e below (s₁.setTop (entryFrame m #[.ref a, .ref b, .int (Int32.ofNat o), .int (Int32.ofNat len), .null] 6)) (s₁.setTop (mkF m 0 #[.val (.ref a), .val (.ref b), .val (.int (Int32.ofNat o)), .val (.int (Int32.ofNat len)), .val .null, .unset] [])) := entry rfl
  have c2 : Steps p.tables e below (s₁.setTop (entryFrame m #[.ref a, .ref b, .int (Int32.ofNat o), .int (Int32.ofNat len), .null] 6)) (s₁.setTop (mkF m 1 #[.val (.ref a), .val (.ref b), .val (.int (Int32.ofNat o)), .val (.int (Int32.ofNat len)), .val .null, .unset] [.ref a])) := c1.trans (by
    refine XS.aloadN X0.here hexec rfl (hb hbytes d0) rfl rfl ?_
    exact Steps.refl _)
  obtain ⟨T3, X3, q3, st3⟩ := X0.oinit hexec hown (wks W (objW "java/lang/String" 1)) (g := (mkF m 1 #[.val (.ref a), .val (.ref b), .val (.int (Int32.ofNat o)), .val (.int (Int32.ofNat len)), .val .null, .unset] [.ref a])) rfl (by rw [hml]; rfl) (rest := []) rfl (hb hbytes d1) (W := 0) (by show 2 * 0 + 0 ≤ _; decide) (Nat.le_of_ble_eq_true rfl) (Nat.le_of_ble_eq_true rfl)
  have hh3 := q3.trans hh0
  have c4 : Steps p.tables e below (s₁.setTop (entryFrame m #[.ref a, .ref b, .int (Int32.ofNat o), .int (Int32.ofNat len), .null] 6)) (T3.setTop (mkF m 27 #[.val (.ref a), .val (.ref b), .val (.int (Int32.ofNat o)), .val (.int (Int32.ofNat len)), .val .null, .unset] [])) := (c2.trans (st3 _ (Steps.refl _))).trans (by
    refine XS.iloadN X3.here hexec rfl (hb hbytes d4) rfl ?_
    refine XS.ifYes X3.here hexec rfl (pc0 := 5) rfl (hb hbytes d5) rfl (i0_ne_t (nz32 (by omega) l0)) (by decide) rfl ?_
    exact Steps.refl _)
  obtain ⟨T5, X5, q5, st5⟩ := X3.sget hexec hown (wk W (.fieldLink "java/lang/String" 38 "java/lang/String" "COMPACT_STRINGS" "Z")) s1 (fun _ _ h => by rw [hh3]; exact h) (g := (mkF m 27 #[.val (.ref a), .val (.ref b), .val (.int (Int32.ofNat o)), .val (.int (Int32.ofNat len)), .val .null, .unset] [])) rfl (hb hbytes d27)
  have hh5 := q5.trans hh3
  have c6 : Steps p.tables e below (s₁.setTop (entryFrame m #[.ref a, .ref b, .int (Int32.ofNat o), .int (Int32.ofNat len), .null] 6)) (T5.setTop (mkF m 30 #[.val (.ref a), .val (.ref b), .val (.int (Int32.ofNat o)), .val (.int (Int32.ofNat len)), .val .null, .unset] [.int z])) := c4.trans (st5 _ (Steps.refl _))
  have c7 : Steps p.tables e below (s₁.setTop (entryFrame m #[.ref a, .ref b, .int (Int32.ofNat o), .int (Int32.ofNat len), .null] 6)) (T5.setTop (mkF m 36 #[.val (.ref a), .val (.ref b), .val (.int (Int32.ofNat o)), .val (.int (Int32.ofNat len)), .val .null, .unset] [.int (Int32.ofNat len), .int (Int32.ofNat o), .ref b])) := c6.trans (by
    refine XS.ifNo X5.here hexec rfl (hb hbytes d30) rfl (i0_eq_f hz) ?_
    refine XS.aloadN X5.here hexec rfl (hb hbytes d33) rfl rfl ?_
    refine XS.iloadN X5.here hexec rfl (hb hbytes d34) rfl ?_
    refine XS.iloadN X5.here hexec rfl (hb hbytes d35) rfl ?_
    exact Steps.refl _)
  obtain ⟨v8, T8, X8, E8, g8⟩ := X5.callS hexec (Cmp3.law l b A o len) hown (wks W (staticW "java/lang/String" 177 Cmp3.yN)) (wk W Cmp3.tab) (W := 0) (Nat.le_of_ble_eq_true rfl) (Nat.le_of_ble_eq_true rfl) (Nat.le_refl _) (by show 0 + len ≤ len; omega) (g := (mkF m 36 #[.val (.ref a), .val (.ref b), .val (.int (Int32.ofNat o)), .val (.int (Int32.ofNat len)), .val .null, .unset] [.int (Int32.ofNat len), .int (Int32.ofNat o), .ref b])) rfl (by rw [hml]; rfl) c7 (argsL := [.ref b, .int (Int32.ofNat o), .int (Int32.ofNat len)]) (rest := []) rfl rfl (by show 2 * 0 + 0 ≤ _; decide) (hb hbytes d36) (⟨rfl, hA.mv X5.warmed.alike hh5, l1, l2, hp⟩)
  obtain ⟨e8, z8⟩ := E8
  obtain ⟨rfl, N, n1, n2, n3, n4, n5, n6⟩ := NewArr.mv _ T5 s _ _ hh5.symm (Vm.Alike.refl _) rfl e8
  rw [hh5] at z8
  have hB1 := hB.keep X8.warmed.alike (n6 _ _ hB.1)
  have hne : s.heap.size ≠ a := (Nat.ne_of_lt (Array.getElem?_eq_some_iff.mp hB.1).1).symm
  have c9 : Steps p.tables e below (s₁.setTop (entryFrame m #[.ref a, .ref b, .int (Int32.ofNat o), .int (Int32.ofNat len), .null] 6)) (T8.setTop (mkF m 39 #[.val (.ref a), .val (.ref b), .val (.int (Int32.ofNat o)), .val (.int (Int32.ofNat len)), .val .null, .unset] [.ref s.heap.size])) := g8
  have c10 : Steps p.tables e below (s₁.setTop (entryFrame m #[.ref a, .ref b, .int (Int32.ofNat o), .int (Int32.ofNat len), .null] 6)) (T8.setTop (mkF m 45 #[.val (.ref a), .val (.ref b), .val (.int (Int32.ofNat o)), .val (.int (Int32.ofNat len)), .val .null, .val (.ref s.heap.size)] [.int (Int32.ofNat N.slots.size), .ref s.heap.size, .ref a])) := by
    have hc : Steps p.tables e below (s₁.setTop (entryFrame m #[.ref a, .ref b, .int (Int32.ofNat o), .int (Int32.ofNat len), .null] 6)) (T8.setTop (mkF m 45 #[.val (.ref a), .val (.ref b), .val (.int (Int32.ofNat o)), .val (.int (Int32.ofNat len)), .val .null, .val (.ref s.heap.size)] [.int (Int32.ofNat len), .ref s.heap.size, .ref a])) := c9.trans (by
      refine XS.astore X8.here hexec rfl (hb hbytes d39) rfl rfl rfl ?_
      refine XS.aloadN X8.here hexec rfl (hb hbytes d41) rfl rfl ?_
      refine XS.aload X8.here hexec rfl (hb hbytes d42) rfl rfl ?_
      refine XS.iloadN X8.here hexec rfl (hb hbytes d44) rfl ?_
      exact Steps.refl _)
    rw [n4]; exact hc
  obtain ⟨v11, T11, X11, E11, g11⟩ := X8.callS hexec (CodL.law l s.heap.size N) hown (wks W (staticW "java/lang/String" 47 CodL.yN)) (wk W CodL.tab) (W := 1) (Nat.le_of_ble_eq_true rfl) (Nat.le_of_ble_eq_true rfl) (Nat.le_refl _) (by show 0 + len + 0 ≤ len; omega) (g := (mkF m 45 #[.val (.ref a), .val (.ref b), .val (.int (Int32.ofNat o)), .val (.int (Int32.ofNat len)), .val .null, .val (.ref s.heap.size)] [.int (Int32.ofNat N.slots.size), .ref s.heap.size, .ref a])) rfl (by rw [hml]; rfl) c10 (argsL := [.ref s.heap.size, .int (Int32.ofNat N.slots.size)]) (rest := [.ref a]) rfl rfl (by show 2 * 0 + (1 + 0) ≤ _; decide) (hb hbytes d45) (⟨rfl, n1⟩)
  obtain ⟨rfl, q11⟩ := E11
  have hB11 := hB1.mv (X8.warmed.alike.symm.trans X11.warmed.alike) q11
  have c12 : Steps p.tables e below (s₁.setTop (entryFrame m #[.ref a, .ref b, .int (Int32.ofNat o), .int (Int32.ofNat len), .null] 6)) (T11.setTop (mkF m 48 #[.val (.ref a), .val (.ref b), .val (.int (Int32.ofNat o)), .val (.int (Int32.ofNat len)), .val .null, .val (.ref s.heap.size)] [.int 0, .ref a])) := g11
  obtain ⟨T13, X13, p13, bl13, sl13, st13⟩ := X11.finit hexec hown (wk W (.fieldLink "java/lang/String" 15 "java/lang/String" "coder" "B")) (Or.inr ⟨_, (wk W (.laysFinal "java/lang/String" "java/lang/String" "coder" "B"))⟩) (Or.inl ⟨rfl, hnm⟩) f2 (Or.inl rfl) hB11 (t := .byte) (by decide +kernel) rfl (g := (mkF m 48 #[.val (.ref a), .val (.ref b), .val (.int (Int32.ofNat o)), .val (.int (Int32.ofNat len)), .val .null, .val (.ref s.heap.size)] [.int 0, .ref a])) rfl (rest := []) rfl (hb hbytes d48)
  have c14 : Steps p.tables e below (s₁.setTop (entryFrame m #[.ref a, .ref b, .int (Int32.ofNat o), .int (Int32.ofNat len), .null] 6)) (T13.setTop (mkF m 54 #[.val (.ref a), .val (.ref b), .val (.int (Int32.ofNat o)), .val (.int (Int32.ofNat len)), .val .null, .val (.ref s.heap.size)] [.ref s.heap.size, .ref a])) := (c12.trans (st13 _ (Steps.refl _))).trans (by
    refine XS.aloadN X13.here hexec rfl (hb hbytes d51) rfl rfl ?_
    refine XS.aload X13.here hexec rfl (hb hbytes d52) rfl rfl ?_
    exact Steps.refl _)
  obtain ⟨T15, X15, p15, bl15, sl15, st15⟩ := X13.finit hexec hown (wk W (.fieldLink "java/lang/String" 9 "java/lang/String" "value" "[B")) (Or.inr ⟨_, (wk W (.laysFinal "java/lang/String" "java/lang/String" "value" "[B"))⟩) (Or.inl ⟨rfl, hnm⟩) f1 (Or.inl rfl) bl13 (t := (.array .byte)) (by decide +kernel) rfl (g := (mkF m 54 #[.val (.ref a), .val (.ref b), .val (.int (Int32.ofNat o)), .val (.int (Int32.ofNat len)), .val .null, .val (.ref s.heap.size)] [.ref s.heap.size, .ref a])) rfl (rest := []) rfl (hb hbytes d54)
  have c16 : Steps p.tables e below (s₁.setTop (entryFrame m #[.ref a, .ref b, .int (Int32.ofNat o), .int (Int32.ofNat len), .null] 6)) (T15.setTop (mkF m 57 #[.val (.ref a), .val (.ref b), .val (.int (Int32.ofNat o)), .val (.int (Int32.ofNat len)), .val .null, .val (.ref s.heap.size)] [])) := c14.trans (st15 _ (Steps.refl _))
  have ap := apart (Or.inr ⟨_, (wk W (.laysFinal "java/lang/String" "java/lang/String" "value" "[B"))⟩) (Or.inr ⟨_, (wk W (.laysFinal "java/lang/String" "java/lang/String" "coder" "B"))⟩) f1 f2 (t₁ := .array .byte) (t₂ := .byte) (by decide +kernel) (by decide +kernel) (by decide)
  have al := X8.warmed.alike.symm.trans X15.warmed.alike
  have n7 : T11.heap[s.heap.size]? = some N := by rw [q11]; exact n1.1
  exact ⟨T15, none, _, _, _, X15, by simp, rfl, by omega, (fun _ => rfl), ⟨rfl, _, N, bl15, ((Same.refl D _).set _ (by simp)).set _ (by simp), sl15, (Cell.slots_setSlot_ne _ ap).trans sl13, n1.keep al (p15.other hne (p13.other hne n7)), n2, by rw [al.findClass]; exact n3, n4, n5, fun y c h1 h2 => p15.other h1 (p13.other h1 (by rw [q11]; exact n6 y c h2)), by rw [p15.2.2, p13.2.2, q11]; exact z8⟩, fun fs hl => c16.trans (X15.returnOut hexec hret (hb hbytes d57) hl)⟩
end New4
namespace New1
def yN : MethodName := ⟨"java/lang/String", "<init>", "([C)V"⟩
abbrev yB : ByteArray := jdk_42_method_3_code
theorem d0 : decode yB 0 = .ok (.aload_n 0, 1) := by decide +kernel
theorem d1 : decode yB 1 = .ok (.aload_n 1, 1) := by decide +kernel
theorem d2 : decode yB 2 = .ok (.iconst 0, 1) := by decide +kernel
theorem d3 : decode yB 3 = .ok (.aload_n 1, 1) := by decide +kernel
theorem d4 : decode yB 4 = .ok (.arraylength, 1) := by decide +kernel
theorem d5 : decode yB 5 = .ok (.aconst_null, 1) := by decide +kernel
theorem d6 : decode yB 6 = .ok (.invokespecial 27, 3) := by decide +kernel
theorem d9 : decode yB 9 = .ok (.return_, 1) := by decide +kernel
def site : List Cond := [New4.tab] ++ initW "java/lang/String" 27 New4.yN
def tab : Cond := tabOf yN yB 2 none site
def P (a : Addr) (D : Cell) (fV fC : Field) (b : Addr) (A : Cell) (z : Int32) (args : Array Value) (s : State) : Prop := args = #[.ref a, .ref b] ∧ Blank "java/lang/String" a D s ∧ Found "java/lang/String" "value" "[B" fV s ∧ Found "java/lang/String" "coder" "B" fC s ∧ Ch b A s ∧ StaticIs s "java/lang/String" "COMPACT_STRINGS" "Z" (.int z) ∧ ¬ z = 0 ∧ 0 < A.slots.size ∧ A.slots.size ≤ 536870912 ∧ ∀ i, i < A.slots.size → ¬ 255 < cv A i
def E (a : Addr) (D : Cell) (fV fC : Field) (A : Cell) (r : Option Value) (s u : State) : Prop := Got a D fV fC A 0 A.slots.size r s u
/-- new String(chars), not empty, no char above 255: a Latin-1 String of their low bytes -/
theorem law (l : Launch) (a : Addr) (D : Cell) (fV fC : Field) (b : Addr) (A : Cell) (z : Int32) : Law l yN 2 1 3 52 yB 2 none site (P a D fV fC b A z) (E a D fV fC A) [⟨a, fC.slot⟩, ⟨a, fV.slot⟩] 1 A.slots.size := by
  refine Law.of_walk (plainFor_of_name (by decide +kernel)) (by decide +kernel) (by decide +kernel) (by decide) (fun _ _ h => by rw [h.1]; rfl) (fun _ U U' hal hh h => ⟨h.1, h.2.1.mv hal hh, h.2.2.1.al hal, h.2.2.2.1.al hal, h.2.2.2.2.1.mv hal hh, h.2.2.2.2.2.1.there hal hh, h.2.2.2.2.2.2⟩) (fun r U U' V V' h1 hal h2 h => Got.mv r U U' V V' h1 hal h2 h) ?_
  intro p e s m args below meth c s₁ X0 hexec hbytes hml hret hlk hnm hown hh0 W hP
  obtain ⟨rfl, hB, f1, f2, hA, s1, hz, l0, l2, hp⟩ := hP
  have c1 : Steps p.tables e below (s₁.setTop (entryFrame m #[.ref a, .ref b] 2)) (s₁.setTop (mkF m 0 #[.val (.ref a), .val (.ref b)] [])) := entry rfl
  have c2 : Steps p.tables e below (s₁.setTop (entryFrame m #[.ref a, .ref b] 2)) (s₁.setTop (mkF m 6 #[.val (.ref a), .val (.ref b)] [.null, .int (Int32.ofNat A.slots.size), .int 0, .ref b, .ref a])) := c1.trans (by
    refine XS.aloadN X0.here hexec rfl (hb hbytes d0) rfl rfl ?_
    refine XS.aloadN X0.here hexec rfl (hb hbytes d1) rfl rfl ?_
    refine iconstV X0.here hexec rfl 0 (hb hbytes d2) (by decide) ?_
    refine XS.aloadN X0.here hexec rfl (hb hbytes d3) rfl rfl ?_
    refine X0.alen hexec (hA.1.mv X0.warmed.alike hh0) rfl rfl (hb hbytes d4) ?_
    refine XS.aconstNull X0.here hexec rfl (hb hbytes d5) ?_
    exact Steps.refl _)
  obtain ⟨v3, T3, X3, E3, g3⟩ := X0.callN hexec (New4.law l a D fV fC b A z 0 A.slots.size) rfl hown (wks W (initW "java/lang/String" 27 New4.yN)) (W New4.tab (by simp only [site, List.mem_cons, List.mem_append, true_or, or_true])) (W := 0) (Nat.le_of_ble_eq_true rfl) (Nat.le_of_ble_eq_true rfl) (Nat.le_refl _) (by show 0 + A.slots.size ≤ A.slots.size; omega) (g := (mkF m 6 #[.val (.ref a), .val (.ref b)] [.null, .int (Int32.ofNat A.slots.size), .int (Int32.ofNat 0), .ref b, .ref a])) rfl (by rw [hml]; rfl) c2 (argsL := [.ref b, .int (Int32.ofNat 0), .int (Int32.ofNat A.slots.size), .null]) (rest := []) rfl rfl (by show 2 * 0 + 0 ≤ _; decide) (hb hbytes d6) (⟨rfl, hB.mv X0.warmed.alike hh0, f1.al X0.warmed.alike, f2.al X0.warmed.alike, hA.mv X0.warmed.alike hh0, s1.there X0.warmed.alike hh0, hz, l0, by omega, l2, fun i hi => by rw [Nat.zero_add]; exact hp i hi⟩)
  have e0 := Got.mv _ s₁ s _ _ hh0.symm (Vm.Alike.refl _) rfl E3
  obtain rfl := e0.1
  have c4 : Steps p.tables e below (s₁.setTop (entryFrame m #[.ref a, .ref b] 2)) (T3.setTop (mkF m 9 #[.val (.ref a), .val (.ref b)] [])) := g3
  exact ⟨T3, none, _, _, _, X3, by simp, rfl, by omega, (fun _ => rfl), e0, fun fs hl => c4.trans (X3.returnOut hexec hret (hb hbytes d9) hl)⟩
theorem pays {l : Launch} {R : Room} {p : Program} {e : Env} {below : List Frame} {s : State} {sargs : Array Value} {len W : Nat} (a : Addr) (D : Cell) (fV fC : Field) (b : Addr) (A : Cell) (z : Int32) (htab : tab.before sargs s = true) (hfr : 4 ≤ R.frames) (hlo : W + 65 ≤ R.locals) :
    Back l R p e below s sargs yN len W (fun A₁ a₁ => A₁.cells + 1 ≤ R.cells ∧ A₁.slots + A.slots.size ≤ R.slots ∧ P a D fV fC b A z a₁ A₁.U) (fun A₁ _ v₁ B₁ => E a D fV fC A v₁ A₁.U B₁.U ∧ B₁.locs = A₁.locs ++ [⟨a, fC.slot⟩, ⟨a, fV.slot⟩] ∧ B₁.cells = A₁.cells + 1 ∧ B₁.slots = A₁.slots + A.slots.size) :=
  (law l a D fV fC b A z).pays htab hfr (by omega)
end New1
end StrChars
namespace StrChars.Road
open Jvm Sem ClassFile Op Lib Jvm.Stand Jvm.Free Jvm.Free.XT
open Jvm.Lib.Cold (StaticIs)
abbrev ST : String := "java/lang/String"
/-- every table word that New1's law asks, flat -/
abbrev words : List Jvm.Cond := [.code New1.yN New1.yB 2 none, .initialized ST, .methodLink ST 27 New4.yN, .instanceMethod New4.yN,
  .code New4.yN New4.yB 6 none, .fieldLink ST 38 ST "COMPACT_STRINGS" "Z", .laysFinal ST ST "value" "[B", .fieldLink ST 9 ST "value" "[B", .laysFinal ST ST "coder" "B", .fieldLink ST 15 ST "coder" "B",
  .methodLink ST 1 Lib.objectInit, .instanceMethod Lib.objectInit, .code Lib.objectInit ⟨#[0xb1]⟩ 1 none, .methodLink ST 177 Cmp3.yN, .static Cmp3.yN, .methodLink ST 47 CodL.yN, .static CodL.yN,
  .code Cmp3.yN Cmp3.yB 6 (some (.array .byte)), .initialized U16, .arrayClass .byte, .methodLink U16 115 Cmp5.yN, .static Cmp5.yN, .code Cmp5.yN Cmp5.yB 7 (some .int), .code CodL.yN CodL.yB 2 (some .byte)]
theorem tab_of {a : Array Value} {s : State} (h : ∀ w ∈ words, w.before a s = true) : New1.tab.before a s = true := by
  have h5 : Cmp5.tab.before a s = true := unparts (wk h (.code Cmp5.yN Cmp5.yB 7 (some .int))) (wks h (.initialized Cmp5.yN.cls :: Cmp5.site))
  have hc : CodL.tab.before a s = true := unparts (wk h (.code CodL.yN CodL.yB 2 (some .byte))) (wks h (.initialized CodL.yN.cls :: CodL.site))
  have q5 : ∀ w ∈ Cmp5.tab :: words, w.before a s = true := fun w hw => (List.mem_cons.mp hw).elim (fun e => e ▸ h5) (h w)
  have h3 : Cmp3.tab.before a s = true := unparts (wk q5 (.code Cmp3.yN Cmp3.yB 6 (some (.array .byte)))) (wks q5 (.initialized Cmp3.yN.cls :: Cmp3.site))
  have q3 : ∀ w ∈ Cmp3.tab :: CodL.tab :: words, w.before a s = true := fun w hw => (List.mem_cons.mp hw).elim (fun e => e ▸ h3) fun hw => (List.mem_cons.mp hw).elim (fun e => e ▸ hc) (h w)
  have h4 : New4.tab.before a s = true := unparts (wk q3 (.code New4.yN New4.yB 6 none)) (wks q3 (.initialized New4.yN.cls :: New4.site))
  have q4 : ∀ w ∈ New4.tab :: words, w.before a s = true := fun w hw => (List.mem_cons.mp hw).elim (fun e => e ▸ h4) (h w)
  exact unparts (wk q4 (.code New1.yN New1.yB 2 none)) (wks q4 (.initialized New1.yN.cls :: New1.site))
/-- the words ride from the start Z to the walk's own state -/
theorem moved {Z s : State} {a0 args : Array Value} (hZ : Z.Warmed39 s.vm) (hw : ∀ d ∈ words, d.before a0 Z = true) : ∀ d ∈ words, d.before args s = true := fun d hd => by
  have q := hw d hd
  have t : ∀ d ∈ words, d = .arrayClass .byte ∨ (d.onTables && d.keepsFace) = true := by decide +kernel
  rcases t d hd with rfl | t
  · exact RoadKit.mvA hZ q
  · exact RoadKit.mv hZ q t
/-- WHAT COMES BACK, over the tables of the start Z: h the heap at the call, h' behind it -/
def Q (Z : State) (x : Addr) (A : Cell) (h : Heap) (v : Option Value) (h' : Heap) (L : List Loc) : Prop := v = none ∧ (∀ y ∈ L, y.base = x) ∧ RoadKit.Keep h h' [x] ∧ h'.size = h.size + 1 ∧ RoadKit.Exa Z h' x ST ∧ RoadKit.Fld Z h' x ST "value" "[B" (.ref h.size) ∧ RoadKit.Fld Z h' x ST "coder" "B" (.int 0) ∧
  (∃ V : Cell, RoadKit.Arr Z h' h.size V .byte ∧ V.vm = .none ∧ Z.vm.findClass "[B" = some V.cls ∧ V.slots.size = A.slots.size ∧ ∀ j, j < A.slots.size → V.slots[j]? = some (.int (lo8 (cv A j)))) ∧
  ∀ (O n d : String) (w : Value), RoadKit.Fld Z h x O n d w → RoadKit.slotOf Z O n d ≠ RoadKit.slotOf Z ST "value" "[B" → RoadKit.slotOf Z O n d ≠ RoadKit.slotOf Z ST "coder" "B" → RoadKit.Fld Z h' x O n d w
/-- **new String(chars) AT A CALL, IN THE ROAD'S FORM**: for specialBack behind newO: x the fresh String, b the char[] with the cell A -/
theorem back {p : Program} {l : Launch} {e : Env} {R : Room} {s : State} {args : Array Value} {below : List Frame} {len W : Nat} {Z : State} {a0 : Array Value} {h : Heap} (hZ : Z.Warmed39 s.vm) (hw : ∀ d ∈ words, d.before a0 Z = true) {kI : Nat} (wi : (Jvm.Cond.instantiable ST kI).before a0 Z = true)
    {x b : Addr} {A : Cell} {z : Int32} {v0 c0 : Value} (E : RoadKit.Exa Z h x ST) (V : RoadKit.Fld Z h x ST "value" "[B" v0) (C : RoadKit.Fld Z h x ST "coder" "B" c0) (K : RoadKit.Arr Z h b A .char) (hty : Typed .char A) (S : RoadKit.Sta Z h ST "COMPACT_STRINGS" "Z" (.int z)) (hz : ¬ z = 0)
    (l0 : 0 < A.slots.size) (l2 : A.slots.size ≤ 536870912) (hp : ∀ i, i < A.slots.size → ¬ 255 < cv A i) (hfr : 4 ≤ R.frames) (hlo : W + 65 ≤ R.locals) :
    Back l R p e below s args New1.yN len W (fun P a => a = #[.ref x, .ref b] ∧ P.U.heap = h ∧ P.cells + 1 ≤ R.cells ∧ P.slots + A.slots.size ≤ R.slots)
      (fun P _ v B => ∃ L, Q Z x A h v B.U.heap L ∧ B.locs = P.locs ++ L ∧ B.cells = P.cells + 1 ∧ B.slots = P.slots + A.slots.size) := by
  intro m meth c P g ig mk a X hg hsize hdg hW hn hp'
  obtain ⟨rfl, rfl, r1, r2⟩ := hp'
  have al : Z.vm.Alike P.U.vm := hZ.alike.trans X.warmed.alike
  obtain ⟨D, cfV, kV, iV, fV, hD, gV, stV, knV, obV, asV, slV⟩ := id V
  obtain ⟨D', cfC, kC, iC, fC, hD', gC, stC, -, -, asC, slC⟩ := id C
  cases hD.symm.trans hD'
  obtain ⟨D2, kD, e1, e2, e3, e4, e5⟩ := id E
  cases hD.symm.trans e1
  obtain ⟨c2, k2, i1, i2, i3, -⟩ := Cond.instantiable_spec wi
  cases e2.symm.trans i1
  cases e3.symm.trans i2
  obtain ⟨kU, u1, u2⟩ := al.2.2 _ _ e3
  have hB : Blank ST x D P.U := ⟨hD, ⟨knV, fun q hq => by rw [hq] at obV; cases obV⟩, by rw [al.findClass]; exact e2, kU, u1, by rw [u2]; exact i3, by rw [u2]; exact e5 i3⟩
  have F1 : Found ST "value" "[B" fV P.U := ⟨SBG.found_only al ⟨cfV, kV, iV, gV⟩, stV⟩
  have F2 : Found ST "coder" "B" fC P.U := ⟨SBG.found_only al ⟨cfC, kC, iC, gC⟩, stC⟩
  have hA : Ch b A P.U := ⟨⟨K.1, State.isArrayOf_alike al K.2.1, K.2.2, by omega⟩, hty⟩
  have hS : StaticIs P.U ST "COMPACT_STRINGS" "Z" (.int z) := by
    obtain ⟨cfS, iS, kS, fS, st, cS, t1, t2, t3, t4, t5, t6, t7⟩ := S
    exact StaticIs.there (s := { Z with heap := P.U.heap }) ⟨cfS, iS, kS, fS, st, cS, t1, t2, t3, t4, t5, (fun q => by rw [q] at t6; cases t6), t7⟩ al rfl
  obtain ⟨v, B, X', ⟨⟨hv, E', V', q1, q2, q3, q4, q5, q6, q7, q8, q9, q10, q11⟩, hl, hc, hs⟩, st⟩ := New1.pays x D fV fC b A z (tab_of (moved hZ hw)) hfr hlo m meth c P g ig mk _ X hg hsize hdg hW hn ⟨r1, r2, rfl, hB, F1, F2, hA, hS, hz, l0, l2, hp⟩
  have al' : Z.vm.Alike B.U.vm := hZ.alike.trans X'.warmed.alike
  have hsz : E'.slots.size = D.slots.size := by
    obtain ⟨-, -, -, kB, w1, w2, w3⟩ := q1
    obtain ⟨kB', y1, y2⟩ := al'.2.2 _ _ e3
    rw [q2.2.1] at w1
    cases w1.symm.trans y1
    rw [w3, e5 i3, y2]
  refine ⟨v, B, X', ⟨_, ⟨hv, ?_, ⟨by omega, fun y cy hy hn' => q10 y cy (by simpa using hn') hy, fun y cy hy => ?_⟩, q11, ⟨E', _, q1.1, by rw [q2.2.1]; exact e2, by rw [q2.2.1]; exact e3, by rw [q2.1]; exact obV, fun _ => by rw [hsz]; exact e5 i3⟩,
    ⟨E', cfV, kV, iV, fV, q1.1, gV, stV, by rw [q2.1]; exact knV, by rw [q2.1]; exact obV, by rw [q2.2.1]; exact asV, q3⟩, ⟨E', cfC, kC, iC, fC, q1.1, gC, stC, by rw [q2.1]; exact knV, by rw [q2.1]; exact obV, by rw [q2.2.1]; exact asC, q4⟩,
    ⟨V', ⟨q5.1, State.isArrayOf_alike al'.symm q5.2.1, q5.2.2.1⟩, q6, by rw [← al'.findClass]; exact q7, q8, fun j hj => by have := q9 j hj; rwa [Nat.zero_add] at this⟩, fun O n d w F n1 n2 => ?_⟩, hl, hc, hs⟩, st⟩
  · intro y hy
    simp only [List.mem_cons, List.not_mem_nil, or_false] at hy
    rcases hy with rfl | rfl <;> rfl
  · by_cases q : y = x
    · subst q
      cases hD.symm.trans hy
      exact ⟨E', q1.1, q2.2.1, q2.1, hsz⟩
    · exact ⟨cy, q10 y cy q hy, rfl, rfl, rfl⟩
  · obtain ⟨D3, cf, k, i, f, g1, g2, g3, g4, g5, g6, g7⟩ := F
    cases hD.symm.trans g1
    simp only [RoadKit.slotOf, g2, gV, gC, Option.map_some, Option.getD_some] at n1 n2
    exact ⟨E', cf, k, i, f, q1.1, g2, g3, by rw [q2.1]; exact g4, by rw [q2.1]; exact g5, by rw [q2.2.1]; exact g6, by rw [q2.2.2 f.slot (by simp [n1, n2])]; exact g7⟩
end StrChars.Road
namespace StrChars.Road
open Jvm Sem ClassFile Op Lib Jvm.Stand Jvm.Free Jvm.Free.XT
/-- WHAT COMES BACK, the byte[] as a list of values -/
def QA (Z : State) (x : Addr) (zn : Int32) (cs : List Int32) (h : Heap) (v : Option Value) (h' : Heap) (L : List Loc) : Prop := v = none ∧ (∀ y ∈ L, y.base = x) ∧ RoadKit.Keep h h' [x] ∧ h'.size = h.size + 1 ∧ RoadKit.Exa Z h' x ST ∧ RoadKit.Fld Z h' x ST "value" "[B" (.ref h.size) ∧ RoadKit.Fld Z h' x ST "coder" "B" (.int 0) ∧
  (∃ kb, Z.vm.findClass "[B" = some kb ∧ RoadKit.Arv Z h' h.size kb .byte zn (cs.map fun c => .int (lo8 c)) (.int 0)) ∧
  ∀ (O n d : String) (w : Value), RoadKit.Fld Z h x O n d w → RoadKit.slotOf Z O n d ≠ RoadKit.slotOf Z ST "value" "[B" → RoadKit.slotOf Z O n d ≠ RoadKit.slotOf Z ST "coder" "B" → RoadKit.Fld Z h' x O n d w
/-- **new String(chars) AT A CALL, THE ARRAYS AS LISTS**: the char[] at b holds cs, not empty, no char above 255 -/
theorem backArv {p : Program} {l : Launch} {e : Env} {R : Room} {s : State} {args : Array Value} {below : List Frame} {len W : Nat} {Z : State} {a0 : Array Value} {h : Heap} (hZ : Z.Warmed39 s.vm) (hw : ∀ d ∈ words, d.before a0 Z = true) {kI : Nat} (wi : (Jvm.Cond.instantiable ST kI).before a0 Z = true)
    {x b : Addr} {k : ClassId} {zn z : Int32} {cs : List Int32} {dv v0 c0 : Value} (E : RoadKit.Exa Z h x ST) (V : RoadKit.Fld Z h x ST "value" "[B" v0) (C : RoadKit.Fld Z h x ST "coder" "B" c0) (K : RoadKit.Arv Z h b k .char zn (cs.map Value.int) dv) (S : RoadKit.Sta Z h ST "COMPACT_STRINGS" "Z" (.int z)) (hz : ¬ z = 0)
    (hlen : zn.toNatClampNeg = cs.length) (h0 : 0 < cs.length) (hbig : cs.length ≤ 536870912) (hall : ∀ c ∈ cs, ¬ 255 < c) (hfr : 4 ≤ R.frames) (hlo : W + 65 ≤ R.locals) :
    Back l R p e below s args New1.yN len W (fun P a => a = #[.ref x, .ref b] ∧ P.U.heap = h ∧ P.cells + 1 ≤ R.cells ∧ P.slots + cs.length ≤ R.slots)
      (fun P _ v B => ∃ L, QA Z x zn cs h v B.U.heap L ∧ B.locs = P.locs ++ L ∧ B.cells = P.cells + 1 ∧ B.slots = P.slots + cs.length) := by
  obtain ⟨A, K1, K2, K3, K4, K5, K6⟩ := K
  have e : A.slots.size = cs.length := K3.trans hlen
  have hat : ∀ (i : Nat) (hi : i < cs.length), A.slots[i]? = some (.int cs[i]) := fun i hi => by rw [K5 i (by omega)]; simp [List.getD_eq_getElem?_getD, hi]
  have hcv : ∀ (i : Nat) (hi : i < cs.length), cv A i = cs[i] := fun i hi => by unfold cv; rw [hat i hi]
  have hty : Typed .char A := fun i v hv => by
    have hi : i < A.slots.size := (Array.getElem?_eq_some_iff.mp hv).1
    have q := K5 i hi
    rw [hv] at q
    rw [Option.some.inj q]
    exact K6 i hi
  refine Back.mono (back hZ hw wi E V C K1 hty S hz (by omega) (by omega) (fun i hi => by rw [hcv i (by omega)]; exact hall _ (List.getElem_mem _)) hfr hlo) (fun P a hp => ⟨hp.1, hp.2.1, hp.2.2.1, by rw [e]; exact hp.2.2.2⟩) (fun P a v B hp hq => ?_)
  obtain ⟨L, ⟨q1, q2, q3, q4, q5, q6, q7, ⟨V', v1, v2, v3, v4, v5⟩, q9⟩, hl, hc, hs⟩ := hq
  refine ⟨L, ⟨q1, q2, q3, q4, q5, q6, q7, ⟨V'.cls, v3, V', v1, rfl, by rw [v4, e, hlen], K4, fun i hi => ?_, fun i hi => ?_⟩, q9⟩, hl, hc, by rw [hs, e]⟩
  · have hi' : i < cs.length := by omega
    rw [v5 i (by omega), hcv i hi']; simp [List.getD_eq_getElem?_getD, hi']
  · have hi' : i < cs.length := by omega
    simp only [List.getD_eq_getElem?_getD, List.getElem?_map, List.getElem?_eq_getElem hi', Option.map_some, Option.getD_some]
    exact fits_lo8 _
end StrChars.Road
namespace StrChars.Road
open Jvm Sem ClassFile Op Lib Jvm.Stand Jvm.Free Jvm.Free.XT
/-- WHAT COMES BACK, in the writer's own shape -/
def QV (Z : State) (x : Addr) (N : Int32) (bs : List Int32) (h : Heap) (n0 : Nat) (v : Option Value) (h' : Heap) (L : List Loc) : Prop := v = none ∧ RoadKit.Fr n0 L ∧ RoadKit.Keep h h' [x] ∧ RoadKit.Exa Z h' x ST ∧ RoadKit.Fld Z h' x ST "coder" "B" (.int 0) ∧
  ∃ (t : Addr) (kb : ClassId), n0 ≤ t ∧ h.size ≤ t ∧ ¬ t = x ∧ RoadKit.Fld Z h' x ST "value" "[B" (.ref t) ∧ RoadKit.Arv Z h' t kb .byte N (bs.map Value.int) (.int 0)
/-- **new String(chars) AT A CALL, FOR THE WRITER**: a char[] of n known ints, each 0 to 255 -/
theorem backV {p : Program} {l : Launch} {e : Env} {R : Room} {s : State} {args : Array Value} {below : List Frame} {len W : Nat} {Z : State} {a0 : Array Value} {h : Heap} (hZ : Z.Warmed39 s.vm) (hw : ∀ d ∈ words, d.before a0 Z = true) {kI : Nat} (wi : (Jvm.Cond.instantiable ST kI).before a0 Z = true)
    {x b : Addr} {kC : ClassId} {cs bs : List Int32} {d v0 c0 : Value} {z N : Int32} {n n0 : Nat} (hx0 : n0 ≤ x) (hh0 : n0 ≤ h.size) (E : RoadKit.Exa Z h x ST) (V : RoadKit.Fld Z h x ST "value" "[B" v0) (C : RoadKit.Fld Z h x ST "coder" "B" c0) (K : RoadKit.Arv Z h b kC .char N (cs.map Value.int) d) (S : RoadKit.Sta Z h ST "COMPACT_STRINGS" "Z" (.int z)) (hz : ¬ z = 0)
    (hn : cs.length = n) (hN : N = Int32.ofNat n) (l0 : 0 < n) (l2 : n ≤ 4000) (hp : ∀ c ∈ cs, ¬ c < 0 ∧ ¬ (255 : Int32) < c) (hb : bs = cs.map (fun c => c.toInt8.toInt32)) (hfr : 4 ≤ R.frames) (hlo : W + 65 ≤ R.locals) :
    Back l R p e below s args (⟨"java/lang/String", "<init>", "([C)V"⟩ : MethodName) len W (fun P a => a = #[.ref x, .ref b] ∧ P.U.heap = h ∧ P.cells + 1 ≤ R.cells ∧ P.slots + n ≤ R.slots)
      (fun P _ v B => ∃ L, QV Z x N bs h n0 v B.U.heap L ∧ B.locs = P.locs ++ L ∧ B.cells = P.cells + 1 ∧ B.slots = P.slots + n) := by
  subst hn hN hb
  refine Back.mono (backArv hZ hw wi E V C K S hz (n32 (by omega)) l0 (by omega) (fun c hc => (hp c hc).2) hfr hlo) (fun P a hp => hp) (fun P a v B hp hq => ?_)
  obtain ⟨L, ⟨q1, q2, q3, q4, q5, q6, q7, ⟨kb, v1, v2⟩, q9⟩, hl, hc, hs⟩ := hq
  exact ⟨L, ⟨q1, fun y hy => by rw [q2 y hy]; exact hx0, q3, q5, q7, h.size, kb, hh0, Nat.le_refl _, Nat.ne_of_gt E.lt, q6, by rw [List.map_map]; exact v2⟩, hl, hc, hs⟩
end StrChars.Road
end Jvm.Pilot.@@N@@
namespace Jvm.RoadKit
open Sem ClassFile Op Lib Jvm.Stand Jvm.Free Jvm.LawKit
section New
variable {p : Program} {l : Launch} {e : Env} {R : Room} {s : State} {m : MethodId} {args : Array Value} {below : List Frame} {meth : Method} {c : Code} {T : State} {locs : List Loc} {cells slots : Nat}
theorem retI (X : Stand p l e R s m args below meth c T locs cells slots) (hx : p.tables.exec = Jvm.exec) {pc : Nat} {Ls : Array Slot} {z : Int32} {rest : List Value} (hret : meth.sig.returnType = some .int) (hd : decode c.code pc = .ok (.ireturn, 1)) {fs : List Frame}
    (hl : ∀ (f : JFrame) (acts : List Action), f.method = m → f.locked = none → f.entered = [] → (doReturn e (T.setTop f) acts (some (.int z))).1 = T.setFrames fs) : Steps p.tables e below (T.setTop (mkF m pc Ls (.int z :: rest))) (T.setFrames fs) := by
  have hm' : T.vm.method? m = some meth := X.method'
  have hn : narrow .int (.int z) = .int z := rfl
  show Steps p.tables e below (T.setTop { method := m, pc := pc, locals := Ls, stack := _ :: rest, locked := none }) _
  jvm_step X.here [X.here.top, hx, hd, hm', hret, hn]
  first | (intro acts; rw [hl _ acts rfl rfl rfl]) | rw [hl _ _ rfl rfl rfl]
  exact Steps.refl _
end New
end Jvm.RoadKit
namespace Jvm.Pilot.@@N@@
open Jvm Jvm.ClassFile Sem Op Lib Jvm.Free Jvm.Stand Jvm.LawKit Jvm.RoadKit Bundle Jvm.Pilot.@@N@@.Jvm.D
/-- where the walk stands, and what is still to come of it -/
abbrev Go (tb : Tables) (e : Env) (below : List Frame) (P : State → Outcome → Prop) (σ : State) : Prop := ∃ s₂ o, Steps tb e below σ s₂ ∧ P s₂ o
theorem go_st {tb : Tables} {e : Env} {below : List Frame} {P : State → Outcome → Prop} {σ σ' : State} (st : ∀ t, Steps tb e below σ' t → Steps tb e below σ t) (k : Go tb e below P σ') : Go tb e below P σ := by
  obtain ⟨a, b, c, d⟩ := k; exact ⟨a, b, st _ c, d⟩
theorem go_tr {tb : Tables} {e : Env} {below : List Frame} {P : State → Outcome → Prop} {σ σ' : State} (st : Steps tb e below σ σ') (k : Go tb e below P σ') : Go tb e below P σ := by
  obtain ⟨a, b, c, d⟩ := k; exact ⟨a, b, st.trans c, d⟩
theorem go_named {tb : Tables} {e : Env} {below : List Frame} {P : State → Outcome → Prop} {σ : State} (k : ∀ P', P' = P → Go tb e below P' σ) : Go tb e below P σ := k P rfl
theorem ext_rfl (h : Heap) : Ext h h := ⟨Nat.le_refl _, fun _ _ q => q⟩
theorem ext_tr {h h' h'' : Heap} (E : Ext h h') (E' : Ext h' h'') : Ext h h'' := ⟨Nat.le_trans E.1 E'.1, fun a c q => E'.2 a c (E.2 a c q)⟩
theorem ext_keep {h h' h'' : Heap} {ws : List Addr} (E : Ext h h') (K : Keep h' h'' ws) (q : ∀ x ∈ ws, h.size ≤ x) : Ext h h'' :=
  ⟨Nat.le_trans E.1 K.1, fun a c r => K.2.1 a c (E.2 a c r) fun z => absurd (Array.getElem?_eq_some_iff.mp r).1 (Nat.not_lt.mpr (q a z))⟩
theorem ext_wr {h h' h'' : Heap} {b : Addr} {sl : Nat} {v : Value} (E : Ext h h') (W : Wr h' h'' b sl v) (q : h.size ≤ b) : Ext h h'' := ext_keep E (Keep.of_wr W) (allS q all0)
theorem keep_of_ext {h h' : Heap} (E : Ext h h') : Keep h h' [] := (Keep.refl h []).ext E
theorem ref_cat {v : Value} (h : v.isRef = true) : v.category = 1 := by rcases ref_cases h with rfl | ⟨a, rfl⟩ <;> rfl
theorem ref_fits {v : Value} (C : String) (h : v.isRef = true) : fits (.object C) v = true := by rcases ref_cases h with rfl | ⟨a, rfl⟩ <;> rfl
theorem ref_narrow {v : Value} (C : String) (h : v.isRef = true) : narrow (.object C) v = v := by rcases ref_cases h with rfl | ⟨a, rfl⟩ <;> rfl
theorem pn_java_lang_Record : plainName "java/lang/Record" = true := by first | (simp [plainName, overriddenIn]; done) | decide +kernel
theorem d0_0 : decode jdk_30_method_1_code 0 = .ok (.aload_n 0, 1) := by decide +kernel
theorem d0_1 : decode jdk_30_method_1_code 1 = .ok (.invokespecial 1, 3) := by decide +kernel
theorem w41 {Z : State} {a0 : Array Value} (hw : ∀ d ∈ tables_1, d.before a0 Z = true) : (Jvm.Cond.methodLink "java/lang/Record" (1 : Nat) ({ cls := "java/lang/Object", name := "<init>", desc := "()V" } : Jvm.MethodName)).before a0 Z = true := hw _ (List.mem_of_getElem? (i := 41) rfl)
theorem w12 {Z : State} {a0 : Array Value} (hw : ∀ d ∈ tables_1, d.before a0 Z = true) : (Jvm.Cond.instanceMethod ({ cls := "java/lang/Object", name := "<init>", desc := "()V" } : Jvm.MethodName)).before a0 Z = true := hw _ (List.mem_of_getElem? (i := 12) rfl)
theorem w13 {Z : State} {a0 : Array Value} (hw : ∀ d ∈ tables_1, d.before a0 Z = true) : (Jvm.Cond.code ({ cls := "java/lang/Object", name := "<init>", desc := "()V" } : Jvm.MethodName) object_method_1_code (1 : Nat) (Option.none : Option Jvm.ClassFile.FieldType)).before a0 Z = true := hw _ (List.mem_of_getElem? (i := 13) rfl)
theorem d0_4 : decode jdk_30_method_1_code 4 = .ok (.return_, 1) := by decide +kernel
theorem pn_com_example_fielder_fielder_ForwardState : plainName "com/example/fielder/fielder/ForwardState" = true := by first | (simp [plainName, overriddenIn]; done) | decide +kernel
theorem d1_0 : decode prog_5_method_1_code 0 = .ok (.aload_n 0, 1) := by decide +kernel
theorem d1_1 : decode prog_5_method_1_code 1 = .ok (.invokespecial 1, 3) := by decide +kernel
theorem w40 {Z : State} {a0 : Array Value} (hw : ∀ d ∈ tables_1, d.before a0 Z = true) : (Jvm.Cond.code ({ cls := "java/lang/Record", name := "<init>", desc := "()V" } : Jvm.MethodName) jdk_30_method_1_code (1 : Nat) (Option.none : Option Jvm.ClassFile.FieldType)).before a0 Z = true := hw _ (List.mem_of_getElem? (i := 40) rfl)
theorem w39 {Z : State} {a0 : Array Value} (hw : ∀ d ∈ tables_1, d.before a0 Z = true) : (Jvm.Cond.initialized "java/lang/Record").before a0 Z = true := hw _ (List.mem_of_getElem? (i := 39) rfl)
theorem pd_0 : parseMethodDescriptor "()V" = some ⟨[], none⟩ := by decide +kernel
theorem w36 {Z : State} {a0 : Array Value} (hw : ∀ d ∈ tables_1, d.before a0 Z = true) : (Jvm.Cond.methodLink "com/example/fielder/fielder/ForwardState" (1 : Nat) ({ cls := "java/lang/Record", name := "<init>", desc := "()V" } : Jvm.MethodName)).before a0 Z = true := hw _ (List.mem_of_getElem? (i := 36) rfl)
theorem w37 {Z : State} {a0 : Array Value} (hw : ∀ d ∈ tables_1, d.before a0 Z = true) : (Jvm.Cond.instanceMethod ({ cls := "java/lang/Record", name := "<init>", desc := "()V" } : Jvm.MethodName)).before a0 Z = true := hw _ (List.mem_of_getElem? (i := 37) rfl)
theorem d1_4 : decode prog_5_method_1_code 4 = .ok (.aload_n 0, 1) := by decide +kernel
theorem d1_5 : decode prog_5_method_1_code 5 = .ok (.aload_n 1, 1) := by decide +kernel
theorem d1_6 : decode prog_5_method_1_code 6 = .ok (.putfield 7, 3) := by decide +kernel
theorem w42 {Z : State} {a0 : Array Value} (hw : ∀ d ∈ tables_1, d.before a0 Z = true) : (Jvm.Cond.fieldLink "com/example/fielder/fielder/ForwardState" (7 : Nat) "com/example/fielder/fielder/ForwardState" "messagePrefix" "Ljava/lang/String;").before a0 Z = true := hw _ (List.mem_of_getElem? (i := 42) rfl)
theorem w43 {Z : State} {a0 : Array Value} (hw : ∀ d ∈ tables_1, d.before a0 Z = true) : (Jvm.Cond.laysFinal "com/example/fielder/fielder/ForwardState" "com/example/fielder/fielder/ForwardState" "messagePrefix" "Ljava/lang/String;").before a0 Z = true := hw _ (List.mem_of_getElem? (i := 43) rfl)
theorem w31 {Z : State} {a0 : Array Value} (hw : ∀ d ∈ tables_1, d.before a0 Z = true) : (Jvm.Cond.instantiable "com/example/fielder/fielder/ForwardState" (4 : Nat)).before a0 Z = true := hw _ (List.mem_of_getElem? (i := 31) rfl)
theorem d1_9 : decode prog_5_method_1_code 9 = .ok (.aload_n 0, 1) := by decide +kernel
theorem d1_10 : decode prog_5_method_1_code 10 = .ok (.lload_n 2, 1) := by decide +kernel
theorem d1_11 : decode prog_5_method_1_code 11 = .ok (.putfield 13, 3) := by decide +kernel
theorem w44 {Z : State} {a0 : Array Value} (hw : ∀ d ∈ tables_1, d.before a0 Z = true) : (Jvm.Cond.fieldLink "com/example/fielder/fielder/ForwardState" (13 : Nat) "com/example/fielder/fielder/ForwardState" "refund" "J").before a0 Z = true := hw _ (List.mem_of_getElem? (i := 44) rfl)
theorem w45 {Z : State} {a0 : Array Value} (hw : ∀ d ∈ tables_1, d.before a0 Z = true) : (Jvm.Cond.laysFinal "com/example/fielder/fielder/ForwardState" "com/example/fielder/fielder/ForwardState" "refund" "J").before a0 Z = true := hw _ (List.mem_of_getElem? (i := 45) rfl)
theorem d1_14 : decode prog_5_method_1_code 14 = .ok (.aload_n 0, 1) := by decide +kernel
theorem d1_15 : decode prog_5_method_1_code 15 = .ok (.lload 4, 2) := by decide +kernel
theorem d1_17 : decode prog_5_method_1_code 17 = .ok (.putfield 17, 3) := by decide +kernel
theorem w46 {Z : State} {a0 : Array Value} (hw : ∀ d ∈ tables_1, d.before a0 Z = true) : (Jvm.Cond.fieldLink "com/example/fielder/fielder/ForwardState" (17 : Nat) "com/example/fielder/fielder/ForwardState" "conflict" "J").before a0 Z = true := hw _ (List.mem_of_getElem? (i := 46) rfl)
theorem w47 {Z : State} {a0 : Array Value} (hw : ∀ d ∈ tables_1, d.before a0 Z = true) : (Jvm.Cond.laysFinal "com/example/fielder/fielder/ForwardState" "com/example/fielder/fielder/ForwardState" "conflict" "J").before a0 Z = true := hw _ (List.mem_of_getElem? (i := 47) rfl)
theorem d1_20 : decode prog_5_method_1_code 20 = .ok (.aload_n 0, 1) := by decide +kernel
theorem d1_21 : decode prog_5_method_1_code 21 = .ok (.lload 6, 2) := by decide +kernel
theorem d1_23 : decode prog_5_method_1_code 23 = .ok (.putfield 20, 3) := by decide +kernel
theorem w48 {Z : State} {a0 : Array Value} (hw : ∀ d ∈ tables_1, d.before a0 Z = true) : (Jvm.Cond.fieldLink "com/example/fielder/fielder/ForwardState" (20 : Nat) "com/example/fielder/fielder/ForwardState" "received" "J").before a0 Z = true := hw _ (List.mem_of_getElem? (i := 48) rfl)
theorem w49 {Z : State} {a0 : Array Value} (hw : ∀ d ∈ tables_1, d.before a0 Z = true) : (Jvm.Cond.laysFinal "com/example/fielder/fielder/ForwardState" "com/example/fielder/fielder/ForwardState" "received" "J").before a0 Z = true := hw _ (List.mem_of_getElem? (i := 49) rfl)
theorem d1_26 : decode prog_5_method_1_code 26 = .ok (.return_, 1) := by decide +kernel
theorem d2_0 : decode prog_5_method_3_code 0 = .ok (.new 8, 3) := by decide +kernel
theorem w55 {Z : State} {a0 : Array Value} (hw : ∀ d ∈ tables_1, d.before a0 Z = true) : (Jvm.Cond.classLink "com/example/fielder/fielder/ForwardState" (8 : Nat) "com/example/fielder/fielder/ForwardState").before a0 Z = true := hw _ (List.mem_of_getElem? (i := 55) rfl)
theorem w32 {Z : State} {a0 : Array Value} (hw : ∀ d ∈ tables_1, d.before a0 Z = true) : (Jvm.Cond.initialized "com/example/fielder/fielder/ForwardState").before a0 Z = true := hw _ (List.mem_of_getElem? (i := 32) rfl)
theorem d2_3 : decode prog_5_method_3_code 3 = .ok (.dup, 1) := by decide +kernel
theorem d2_4 : decode prog_5_method_3_code 4 = .ok (.aload_n 0, 1) := by decide +kernel
theorem d2_5 : decode prog_5_method_3_code 5 = .ok (.getfield 7, 3) := by decide +kernel
theorem d2_8 : decode prog_5_method_3_code 8 = .ok (.aload_n 0, 1) := by decide +kernel
theorem d2_9 : decode prog_5_method_3_code 9 = .ok (.getfield 13, 3) := by decide +kernel
theorem d2_12 : decode prog_5_method_3_code 12 = .ok (.lload_n 1, 1) := by decide +kernel
theorem d2_13 : decode prog_5_method_3_code 13 = .ok (.aload_n 0, 1) := by decide +kernel
theorem d2_14 : decode prog_5_method_3_code 14 = .ok (.getfield 20, 3) := by decide +kernel
theorem d2_17 : decode prog_5_method_3_code 17 = .ok (.lconst 1, 1) := by decide +kernel
theorem d2_18 : decode prog_5_method_3_code 18 = .ok (.ladd, 1) := by decide +kernel
theorem d2_19 : decode prog_5_method_3_code 19 = .ok (.invokespecial 23, 3) := by decide +kernel
theorem w35 {Z : State} {a0 : Array Value} (hw : ∀ d ∈ tables_1, d.before a0 Z = true) : (Jvm.Cond.code ({ cls := "com/example/fielder/fielder/ForwardState", name := "<init>", desc := "(Ljava/lang/String;JJJ)V" } : Jvm.MethodName) prog_5_method_1_code (8 : Nat) (Option.none : Option Jvm.ClassFile.FieldType)).before a0 Z = true := hw _ (List.mem_of_getElem? (i := 35) rfl)
theorem pd_1 : parseMethodDescriptor "(Ljava/lang/String;JJJ)V" = some ⟨[(.object "java/lang/String"), .long, .long, .long], none⟩ := by decide +kernel
theorem w56 {Z : State} {a0 : Array Value} (hw : ∀ d ∈ tables_1, d.before a0 Z = true) : (Jvm.Cond.methodLink "com/example/fielder/fielder/ForwardState" (23 : Nat) ({ cls := "com/example/fielder/fielder/ForwardState", name := "<init>", desc := "(Ljava/lang/String;JJJ)V" } : Jvm.MethodName)).before a0 Z = true := hw _ (List.mem_of_getElem? (i := 56) rfl)
theorem w34 {Z : State} {a0 : Array Value} (hw : ∀ d ∈ tables_1, d.before a0 Z = true) : (Jvm.Cond.instanceMethod ({ cls := "com/example/fielder/fielder/ForwardState", name := "<init>", desc := "(Ljava/lang/String;JJJ)V" } : Jvm.MethodName)).before a0 Z = true := hw _ (List.mem_of_getElem? (i := 34) rfl)
theorem d2_22 : decode prog_5_method_3_code 22 = .ok (.areturn, 1) := by decide +kernel
theorem d3_0 : decode prog_5_method_7_code 0 = .ok (.aload_n 0, 1) := by decide +kernel
theorem d3_1 : decode prog_5_method_7_code 1 = .ok (.getfield 7, 3) := by decide +kernel
theorem d3_4 : decode prog_5_method_7_code 4 = .ok (.areturn, 1) := by decide +kernel
theorem d4_0 : decode prog_5_method_8_code 0 = .ok (.aload_n 0, 1) := by decide +kernel
theorem d4_1 : decode prog_5_method_8_code 1 = .ok (.getfield 13, 3) := by decide +kernel
theorem d4_4 : decode prog_5_method_8_code 4 = .ok (.lreturn, 1) := by decide +kernel
theorem d5_0 : decode prog_5_method_9_code 0 = .ok (.aload_n 0, 1) := by decide +kernel
theorem d5_1 : decode prog_5_method_9_code 1 = .ok (.getfield 17, 3) := by decide +kernel
theorem d5_4 : decode prog_5_method_9_code 4 = .ok (.lreturn, 1) := by decide +kernel
theorem d6_0 : decode prog_5_method_10_code 0 = .ok (.aload_n 0, 1) := by decide +kernel
theorem d6_1 : decode prog_5_method_10_code 1 = .ok (.getfield 20, 3) := by decide +kernel
theorem d6_4 : decode prog_5_method_10_code 4 = .ok (.lreturn, 1) := by decide +kernel
theorem pn_com_example_fielder_fielder_ForwardStatePastConflictPinLaw : plainName "com/example/fielder/fielder/ForwardStatePastConflictPinLaw" = true := by first | (simp [plainName, overriddenIn]; done) | decide +kernel
theorem w0 {Z : State} {a0 : Array Value} (hw : ∀ d ∈ tables_1, d.before a0 Z = true) : (Jvm.Cond.arrayClass Jvm.ClassFile.FieldType.char).before a0 Z = true := hw _ (List.mem_of_getElem? (i := 0) rfl)
theorem w1 {Z : State} {a0 : Array Value} (hw : ∀ d ∈ tables_1, d.before a0 Z = true) : (Jvm.Cond.classLink "com/example/fielder/fielder/ForwardStatePastConflictPinLaw" (7 : Nat) "java/lang/String").before a0 Z = true := hw _ (List.mem_of_getElem? (i := 1) rfl)
theorem w2 {Z : State} {a0 : Array Value} (hw : ∀ d ∈ tables_1, d.before a0 Z = true) : (Jvm.Cond.instantiable "java/lang/String" (4 : Nat)).before a0 Z = true := hw _ (List.mem_of_getElem? (i := 2) rfl)
theorem w3 {Z : State} {a0 : Array Value} (hw : ∀ d ∈ tables_1, d.before a0 Z = true) : (Jvm.Cond.initialized "java/lang/String").before a0 Z = true := hw _ (List.mem_of_getElem? (i := 3) rfl)
theorem w27 {Z : State} {a0 : Array Value} (hw : ∀ d ∈ tables_1, d.before a0 Z = true) : (Jvm.Cond.laysFinal "java/lang/String" "java/lang/String" "coder" "B").before a0 Z = true := hw _ (List.mem_of_getElem? (i := 27) rfl)
theorem w29 {Z : State} {a0 : Array Value} (hw : ∀ d ∈ tables_1, d.before a0 Z = true) : (Jvm.Cond.laysFinal "java/lang/String" "java/lang/String" "value" "[B").before a0 Z = true := hw _ (List.mem_of_getElem? (i := 29) rfl)
theorem pd_2 : parseMethodDescriptor "([C)V" = some ⟨[(.array .char)], none⟩ := by decide +kernel
theorem w4 {Z : State} {a0 : Array Value} (hw : ∀ d ∈ tables_1, d.before a0 Z = true) : (Jvm.Cond.methodLink "com/example/fielder/fielder/ForwardStatePastConflictPinLaw" (9 : Nat) ({ cls := "java/lang/String", name := "<init>", desc := "([C)V" } : Jvm.MethodName)).before a0 Z = true := hw _ (List.mem_of_getElem? (i := 4) rfl)
theorem w5 {Z : State} {a0 : Array Value} (hw : ∀ d ∈ tables_1, d.before a0 Z = true) : (Jvm.Cond.instanceMethod ({ cls := "java/lang/String", name := "<init>", desc := "([C)V" } : Jvm.MethodName)).before a0 Z = true := hw _ (List.mem_of_getElem? (i := 5) rfl)
theorem w6 {Z : State} {a0 : Array Value} (hw : ∀ d ∈ tables_1, d.before a0 Z = true) : (Jvm.Cond.code ({ cls := "java/lang/String", name := "<init>", desc := "([C)V" } : Jvm.MethodName) jdk_42_method_3_code (2 : Nat) (Option.none : Option Jvm.ClassFile.FieldType)).before a0 Z = true := hw _ (List.mem_of_getElem? (i := 6) rfl)
theorem w30 {Z : State} {a0 : Array Value} (hw : ∀ d ∈ tables_1, d.before a0 Z = true) : (Jvm.Cond.classLink "com/example/fielder/fielder/ForwardStatePastConflictPinLaw" (12 : Nat) "com/example/fielder/fielder/ForwardState").before a0 Z = true := hw _ (List.mem_of_getElem? (i := 30) rfl)
theorem w33 {Z : State} {a0 : Array Value} (hw : ∀ d ∈ tables_1, d.before a0 Z = true) : (Jvm.Cond.methodLink "com/example/fielder/fielder/ForwardStatePastConflictPinLaw" (14 : Nat) ({ cls := "com/example/fielder/fielder/ForwardState", name := "<init>", desc := "(Ljava/lang/String;JJJ)V" } : Jvm.MethodName)).before a0 Z = true := hw _ (List.mem_of_getElem? (i := 33) rfl)
theorem w54 {Z : State} {a0 : Array Value} (hw : ∀ d ∈ tables_1, d.before a0 Z = true) : (Jvm.Cond.code ({ cls := "com/example/fielder/fielder/ForwardState", name := "pastConflict", desc := "(J)Lcom/example/fielder/fielder/ForwardState;" } : Jvm.MethodName) prog_5_method_3_code (3 : Nat) (Option.some (Jvm.ClassFile.FieldType.object "com/example/fielder/fielder/ForwardState"))).before a0 Z = true := hw _ (List.mem_of_getElem? (i := 54) rfl)
theorem pd_3 : parseMethodDescriptor "(J)Lcom/example/fielder/fielder/ForwardState;" = some ⟨[.long], some (.object "com/example/fielder/fielder/ForwardState")⟩ := by decide +kernel
theorem w50 {Z : State} {a0 : Array Value} (hw : ∀ d ∈ tables_1, d.before a0 Z = true) : (Jvm.Cond.methodLink "com/example/fielder/fielder/ForwardStatePastConflictPinLaw" (17 : Nat) ({ cls := "com/example/fielder/fielder/ForwardState", name := "pastConflict", desc := "(J)Lcom/example/fielder/fielder/ForwardState;" } : Jvm.MethodName)).before a0 Z = true := hw _ (List.mem_of_getElem? (i := 50) rfl)
theorem w53 {Z : State} {a0 : Array Value} (hw : ∀ d ∈ tables_1, d.before a0 Z = true) : (Jvm.Cond.selects "com/example/fielder/fielder/ForwardState" ({ cls := "com/example/fielder/fielder/ForwardState", name := "pastConflict", desc := "(J)Lcom/example/fielder/fielder/ForwardState;" } : Jvm.MethodName) ({ cls := "com/example/fielder/fielder/ForwardState", name := "pastConflict", desc := "(J)Lcom/example/fielder/fielder/ForwardState;" } : Jvm.MethodName)).before a0 Z = true := hw _ (List.mem_of_getElem? (i := 53) rfl)
theorem w51 {Z : State} {a0 : Array Value} (hw : ∀ d ∈ tables_1, d.before a0 Z = true) : (Jvm.Cond.declares ({ cls := "com/example/fielder/fielder/ForwardState", name := "pastConflict", desc := "(J)Lcom/example/fielder/fielder/ForwardState;" } : Jvm.MethodName)).before a0 Z = true := hw _ (List.mem_of_getElem? (i := 51) rfl)
theorem w52 {Z : State} {a0 : Array Value} (hw : ∀ d ∈ tables_1, d.before a0 Z = true) : (Jvm.Cond.instanceMethod ({ cls := "com/example/fielder/fielder/ForwardState", name := "pastConflict", desc := "(J)Lcom/example/fielder/fielder/ForwardState;" } : Jvm.MethodName)).before a0 Z = true := hw _ (List.mem_of_getElem? (i := 52) rfl)
theorem w61 {Z : State} {a0 : Array Value} (hw : ∀ d ∈ tables_1, d.before a0 Z = true) : (Jvm.Cond.code ({ cls := "com/example/fielder/fielder/ForwardState", name := "messagePrefix", desc := "()Ljava/lang/String;" } : Jvm.MethodName) prog_5_method_7_code (1 : Nat) (Option.some (Jvm.ClassFile.FieldType.object "java/lang/String"))).before a0 Z = true := hw _ (List.mem_of_getElem? (i := 61) rfl)
theorem pd_4 : parseMethodDescriptor "()Ljava/lang/String;" = some ⟨[], some (.object "java/lang/String")⟩ := by decide +kernel
theorem w57 {Z : State} {a0 : Array Value} (hw : ∀ d ∈ tables_1, d.before a0 Z = true) : (Jvm.Cond.methodLink "com/example/fielder/fielder/ForwardStatePastConflictPinLaw" (21 : Nat) ({ cls := "com/example/fielder/fielder/ForwardState", name := "messagePrefix", desc := "()Ljava/lang/String;" } : Jvm.MethodName)).before a0 Z = true := hw _ (List.mem_of_getElem? (i := 57) rfl)
theorem w60 {Z : State} {a0 : Array Value} (hw : ∀ d ∈ tables_1, d.before a0 Z = true) : (Jvm.Cond.selects "com/example/fielder/fielder/ForwardState" ({ cls := "com/example/fielder/fielder/ForwardState", name := "messagePrefix", desc := "()Ljava/lang/String;" } : Jvm.MethodName) ({ cls := "com/example/fielder/fielder/ForwardState", name := "messagePrefix", desc := "()Ljava/lang/String;" } : Jvm.MethodName)).before a0 Z = true := hw _ (List.mem_of_getElem? (i := 60) rfl)
theorem w58 {Z : State} {a0 : Array Value} (hw : ∀ d ∈ tables_1, d.before a0 Z = true) : (Jvm.Cond.declares ({ cls := "com/example/fielder/fielder/ForwardState", name := "messagePrefix", desc := "()Ljava/lang/String;" } : Jvm.MethodName)).before a0 Z = true := hw _ (List.mem_of_getElem? (i := 58) rfl)
theorem w59 {Z : State} {a0 : Array Value} (hw : ∀ d ∈ tables_1, d.before a0 Z = true) : (Jvm.Cond.instanceMethod ({ cls := "com/example/fielder/fielder/ForwardState", name := "messagePrefix", desc := "()Ljava/lang/String;" } : Jvm.MethodName)).before a0 Z = true := hw _ (List.mem_of_getElem? (i := 59) rfl)
theorem w66 {Z : State} {a0 : Array Value} (hw : ∀ d ∈ tables_1, d.before a0 Z = true) : (Jvm.Cond.code ({ cls := "com/example/fielder/fielder/ForwardState", name := "refund", desc := "()J" } : Jvm.MethodName) prog_5_method_8_code (1 : Nat) (Option.some Jvm.ClassFile.FieldType.long)).before a0 Z = true := hw _ (List.mem_of_getElem? (i := 66) rfl)
theorem pd_5 : parseMethodDescriptor "()J" = some ⟨[], some .long⟩ := by decide +kernel
theorem w62 {Z : State} {a0 : Array Value} (hw : ∀ d ∈ tables_1, d.before a0 Z = true) : (Jvm.Cond.methodLink "com/example/fielder/fielder/ForwardStatePastConflictPinLaw" (25 : Nat) ({ cls := "com/example/fielder/fielder/ForwardState", name := "refund", desc := "()J" } : Jvm.MethodName)).before a0 Z = true := hw _ (List.mem_of_getElem? (i := 62) rfl)
theorem w65 {Z : State} {a0 : Array Value} (hw : ∀ d ∈ tables_1, d.before a0 Z = true) : (Jvm.Cond.selects "com/example/fielder/fielder/ForwardState" ({ cls := "com/example/fielder/fielder/ForwardState", name := "refund", desc := "()J" } : Jvm.MethodName) ({ cls := "com/example/fielder/fielder/ForwardState", name := "refund", desc := "()J" } : Jvm.MethodName)).before a0 Z = true := hw _ (List.mem_of_getElem? (i := 65) rfl)
theorem w63 {Z : State} {a0 : Array Value} (hw : ∀ d ∈ tables_1, d.before a0 Z = true) : (Jvm.Cond.declares ({ cls := "com/example/fielder/fielder/ForwardState", name := "refund", desc := "()J" } : Jvm.MethodName)).before a0 Z = true := hw _ (List.mem_of_getElem? (i := 63) rfl)
theorem w64 {Z : State} {a0 : Array Value} (hw : ∀ d ∈ tables_1, d.before a0 Z = true) : (Jvm.Cond.instanceMethod ({ cls := "com/example/fielder/fielder/ForwardState", name := "refund", desc := "()J" } : Jvm.MethodName)).before a0 Z = true := hw _ (List.mem_of_getElem? (i := 64) rfl)
theorem w71 {Z : State} {a0 : Array Value} (hw : ∀ d ∈ tables_1, d.before a0 Z = true) : (Jvm.Cond.code ({ cls := "com/example/fielder/fielder/ForwardState", name := "conflict", desc := "()J" } : Jvm.MethodName) prog_5_method_9_code (1 : Nat) (Option.some Jvm.ClassFile.FieldType.long)).before a0 Z = true := hw _ (List.mem_of_getElem? (i := 71) rfl)
theorem w67 {Z : State} {a0 : Array Value} (hw : ∀ d ∈ tables_1, d.before a0 Z = true) : (Jvm.Cond.methodLink "com/example/fielder/fielder/ForwardStatePastConflictPinLaw" (29 : Nat) ({ cls := "com/example/fielder/fielder/ForwardState", name := "conflict", desc := "()J" } : Jvm.MethodName)).before a0 Z = true := hw _ (List.mem_of_getElem? (i := 67) rfl)
theorem w70 {Z : State} {a0 : Array Value} (hw : ∀ d ∈ tables_1, d.before a0 Z = true) : (Jvm.Cond.selects "com/example/fielder/fielder/ForwardState" ({ cls := "com/example/fielder/fielder/ForwardState", name := "conflict", desc := "()J" } : Jvm.MethodName) ({ cls := "com/example/fielder/fielder/ForwardState", name := "conflict", desc := "()J" } : Jvm.MethodName)).before a0 Z = true := hw _ (List.mem_of_getElem? (i := 70) rfl)
theorem w68 {Z : State} {a0 : Array Value} (hw : ∀ d ∈ tables_1, d.before a0 Z = true) : (Jvm.Cond.declares ({ cls := "com/example/fielder/fielder/ForwardState", name := "conflict", desc := "()J" } : Jvm.MethodName)).before a0 Z = true := hw _ (List.mem_of_getElem? (i := 68) rfl)
theorem w69 {Z : State} {a0 : Array Value} (hw : ∀ d ∈ tables_1, d.before a0 Z = true) : (Jvm.Cond.instanceMethod ({ cls := "com/example/fielder/fielder/ForwardState", name := "conflict", desc := "()J" } : Jvm.MethodName)).before a0 Z = true := hw _ (List.mem_of_getElem? (i := 69) rfl)
theorem w76 {Z : State} {a0 : Array Value} (hw : ∀ d ∈ tables_1, d.before a0 Z = true) : (Jvm.Cond.code ({ cls := "com/example/fielder/fielder/ForwardState", name := "received", desc := "()J" } : Jvm.MethodName) prog_5_method_10_code (1 : Nat) (Option.some Jvm.ClassFile.FieldType.long)).before a0 Z = true := hw _ (List.mem_of_getElem? (i := 76) rfl)
theorem w72 {Z : State} {a0 : Array Value} (hw : ∀ d ∈ tables_1, d.before a0 Z = true) : (Jvm.Cond.methodLink "com/example/fielder/fielder/ForwardStatePastConflictPinLaw" (32 : Nat) ({ cls := "com/example/fielder/fielder/ForwardState", name := "received", desc := "()J" } : Jvm.MethodName)).before a0 Z = true := hw _ (List.mem_of_getElem? (i := 72) rfl)
theorem w75 {Z : State} {a0 : Array Value} (hw : ∀ d ∈ tables_1, d.before a0 Z = true) : (Jvm.Cond.selects "com/example/fielder/fielder/ForwardState" ({ cls := "com/example/fielder/fielder/ForwardState", name := "received", desc := "()J" } : Jvm.MethodName) ({ cls := "com/example/fielder/fielder/ForwardState", name := "received", desc := "()J" } : Jvm.MethodName)).before a0 Z = true := hw _ (List.mem_of_getElem? (i := 75) rfl)
theorem w73 {Z : State} {a0 : Array Value} (hw : ∀ d ∈ tables_1, d.before a0 Z = true) : (Jvm.Cond.declares ({ cls := "com/example/fielder/fielder/ForwardState", name := "received", desc := "()J" } : Jvm.MethodName)).before a0 Z = true := hw _ (List.mem_of_getElem? (i := 73) rfl)
theorem w74 {Z : State} {a0 : Array Value} (hw : ∀ d ∈ tables_1, d.before a0 Z = true) : (Jvm.Cond.instanceMethod ({ cls := "com/example/fielder/fielder/ForwardState", name := "received", desc := "()J" } : Jvm.MethodName)).before a0 Z = true := hw _ (List.mem_of_getElem? (i := 74) rfl)
theorem and255_chars (x : Int32) : ¬ nar .char ((x &&& (255 : Int32)).toUInt32.toUInt16.toUInt32.toInt32) < 0 ∧ ¬ (255 : Int32) < nar .char ((x &&& (255 : Int32)).toUInt32.toUInt16.toUInt32.toInt32) := by
  have t : ∀ k : Fin 256, ¬ nar .char ((Int32.ofNat k.val).toUInt32.toUInt16.toUInt32.toInt32) < 0 ∧ ¬ (255 : Int32) < nar .char ((Int32.ofNat k.val).toUInt32.toUInt16.toUInt32.toInt32) := by decide +kernel
  have h : (x &&& 255).toBitVec.toNat < 256 := by
    simp only [Int32.toBitVec_and, BitVec.toNat_and]
    exact Nat.lt_succ_of_le Nat.and_le_right
  have e : (x &&& 255) = Int32.ofNat (x &&& 255).toBitVec.toNat := by
    apply Int32.toBitVec_inj.mp
    show _ = BitVec.ofNat 32 _
    rw [BitVec.ofNat_toNat]; simp
  rw [e]
  exact t ⟨_, h⟩
theorem chars_nil : ∀ c ∈ ([] : List Int32), ¬ c < 0 ∧ ¬ (255 : Int32) < c := fun _ h => nomatch h
theorem chars_cons {c : Int32} {L : List Int32} (h : ¬ c < 0 ∧ ¬ (255 : Int32) < c) (r : ∀ c ∈ L, ¬ c < 0 ∧ ¬ (255 : Int32) < c) : ∀ d ∈ c :: L, ¬ d < 0 ∧ ¬ (255 : Int32) < d := fun d q => (List.mem_cons.mp q).elim (fun u => u ▸ h) (r d)
theorem words_in (hs : ∀ d ∈ StrChars.Road.words, d ∈ tables_1) {Z : State} {a0 : Array Value} (hw : ∀ d ∈ tables_1, d.before a0 Z = true) : ∀ d ∈ StrChars.Road.words, d.before a0 Z = true := fun d hd => hw d (hs d hd)
theorem str_words : ∀ d ∈ StrChars.Road.words, d ∈ tables_1 := by decide +kernel

def Q_rec (Z : State) (a1 : Addr) (h0 : Heap) (n0 : Nat) (vR : Option Value) (h : Heap) (L : List Loc) : Prop := vR = none ∧ Fr n0 L ∧ h = h0
theorem ef_rec (m : MethodId) (x0 : Addr) : entryFrame m #[(.ref x0)] 1 = mkF m 0 #[.val (.ref x0)] [] := by first | (simp [entryFrame, mkF, argsToLocals, Value.category]; done) | rfl
set_option maxRecDepth 65536 in
set_option maxHeartbeats 40000000 in
theorem rm_rec (l : Launch) (Z : State) (a0 : Array Value) (hw : ∀ d ∈ tables_1, d.before a0 Z = true) (ws : List Jvm.Cond) (a1 : Addr) (h0 : Heap) (n0 : Nat) (Z0 : n0 ≤ h0.size)  :
    MetFree l (⟨"java/lang/Record", "<init>", "()V"⟩ : MethodName) (head1 (Jvm.Cond.code (⟨"java/lang/Record", "<init>", "()V"⟩ : MethodName) jdk_30_method_1_code 1 none :: ws) ({ frames := 1, cells := 0, slots := 0, locals := 12 } : Room)) (fun a U => a = #[(.ref a1)] ∧ Z.Warmed39 U.vm ∧ U.heap = h0) (fun _ _ _ _ _ => True) (fun _ U o U' => ∃ v L, o = .returned v ∧ Q_rec Z a1 h0 n0 v U'.heap L ∧ FrameEnd U o U' L ({ frames := 1, cells := 0, slots := 0, locals := 12 } : Room).cells ({ frames := 1, cells := 0, slots := 0, locals := 12 } : Room).slots) := by
  refine MetFree.of_bodySF (plainFor_of_name pn_java_lang_Record) hisR ?_
  intro p e s m args below meth c s₁ Bd hml0 hP hK
  obtain ⟨rfl, hZ, hh⟩ := hP
  have hx := Bd.exec
  have hby := Bd.bytes
  have hml : c.maxLocals = 1 := hml0
  have hown : s.vm.findClass "java/lang/Record" = some m.cls := findClass_of_methodNamed Bd.named
  have hnm := (name_of_methodNamed Bd.named Bd.method).1
  have X0 : Stand p l e ({ frames := 1, cells := 0, slots := 0, locals := 12 } : Room) s m #[(.ref a1)] below meth c s₁ [] 0 0 := Stand.of_body Bd
  have e0 : s₁.heap = h0 := by rw [← hh, Bd.state]; rfl
  have N0 := Fr.nil n0
  refine go_st (fun t k => castTop (ef_rec m a1) k) ?_
  show Go _ _ _ _ (s₁.setTop (mkF m 0 #[rv a1] []))
  refine go_st (fun t k => XS.aloadN X0.here hx rfl (hb hby d0_0) rfl rfl k) ?_
  show Go _ _ _ _ (s₁.setTop (mkF m 1 #[rv a1] [(.ref a1)]))
  obtain ⟨T1, X1, e1, st1⟩ := initO X0 hx hZ hown (w41 hw) (w12 hw) (w13 hw) e0 (g := (mkF m 1 #[rv a1] [(.ref a1)])) rfl (by rw [hml]; rfl) rfl (hb hby d0_1) (by decide) (W := 0) (by show 2 * 0 + _ ≤ _; exact Nat.le_of_eq rfl) (by decide)
  refine go_st (fun t k => st1 t k) ?_
  show Go _ _ _ _ (T1.setTop (mkF m 4 #[rv a1] []))
  obtain ⟨fs, hr, hrun, hended, hW, hsame⟩ := X1.leave (v := none) (fun _ => rfl)
  refine ⟨_, _, ?_, hrun, hended, _, _, rfl, ?_, ⟨_, rfl⟩, hW, hsame.mono (by decide) (by decide)⟩
  · exact X1.returnOut hx Bd.returns (hb hby d0_4) hr
  · show Q_rec _ _ _ _ _ T1.heap _
    rw [e1]
    exact ⟨rfl, N0, rfl⟩
def Q_ctor (Z : State) (a1 : Addr) (pv : Value) (q3 : Int64) (q4 : Int64) (q5 : Int64) (h0 : Heap) (n0 : Nat) (vR : Option Value) (h : Heap) (L : List Loc) : Prop := vR = none ∧ Fr n0 L ∧ Keep h0 h [a1] ∧ (Exa Z h a1 "com/example/fielder/fielder/ForwardState") ∧ (Fld Z h a1 "com/example/fielder/fielder/ForwardState" "messagePrefix" "Ljava/lang/String;" pv) ∧ (Fld Z h a1 "com/example/fielder/fielder/ForwardState" "refund" "J" (.long q3)) ∧ (Fld Z h a1 "com/example/fielder/fielder/ForwardState" "conflict" "J" (.long q4)) ∧ (Fld Z h a1 "com/example/fielder/fielder/ForwardState" "received" "J" (.long q5))
theorem ef_ctor (m : MethodId) (x0 : Addr) (x1 : Value) (hx1 : x1.isRef = true) (x2 : Int64) (x3 : Int64) (x4 : Int64) : entryFrame m #[(.ref x0), x1, (.long x2), (.long x3), (.long x4)] 8 = mkF m 0 #[.val (.ref x0), .val x1, .val (.long x2), .second, .val (.long x3), .second, .val (.long x4), .second] [] := by rcases ref_cases hx1 with rfl | ⟨y1, rfl⟩ <;> simp [entryFrame, mkF, argsToLocals, Value.category]
set_option maxRecDepth 65536 in
set_option maxHeartbeats 40000000 in
theorem rm_ctor (l : Launch) (Z : State) (a0 : Array Value) (hw : ∀ d ∈ tables_1, d.before a0 Z = true) (ws : List Jvm.Cond) (a1 : Addr) (pv : Value) (q3 : Int64) (q4 : Int64) (q5 : Int64) (h0 : Heap) (n0 : Nat) (Z0 : n0 ≤ h0.size) (H0 : Exa Z h0 a1 "com/example/fielder/fielder/ForwardState") (H1 : Fld Z h0 a1 "com/example/fielder/fielder/ForwardState" "messagePrefix" "Ljava/lang/String;" .null) (H2 : Fld Z h0 a1 "com/example/fielder/fielder/ForwardState" "refund" "J" (.long 0)) (H3 : Fld Z h0 a1 "com/example/fielder/fielder/ForwardState" "conflict" "J" (.long 0)) (H4 : Fld Z h0 a1 "com/example/fielder/fielder/ForwardState" "received" "J" (.long 0)) (g_a1 : n0 ≤ a1) (hpv : pv.isRef = true) :
    MetFree l (⟨"com/example/fielder/fielder/ForwardState", "<init>", "(Ljava/lang/String;JJJ)V"⟩ : MethodName) (head1 (Jvm.Cond.code (⟨"com/example/fielder/fielder/ForwardState", "<init>", "(Ljava/lang/String;JJJ)V"⟩ : MethodName) prog_5_method_1_code 8 none :: ws) ({ frames := 2, cells := 0, slots := 0, locals := 24 } : Room)) (fun a U => a = #[(.ref a1), pv, (.long q3), (.long q4), (.long q5)] ∧ Z.Warmed39 U.vm ∧ U.heap = h0) (fun _ _ _ _ _ => True) (fun _ U o U' => ∃ v L, o = .returned v ∧ Q_ctor Z a1 pv q3 q4 q5 h0 n0 v U'.heap L ∧ FrameEnd U o U' L ({ frames := 2, cells := 0, slots := 0, locals := 24 } : Room).cells ({ frames := 2, cells := 0, slots := 0, locals := 24 } : Room).slots) := by
  refine MetFree.of_bodySF (plainFor_of_name pn_com_example_fielder_fielder_ForwardState) hisR ?_
  intro p e s m args below meth c s₁ Bd hml0 hP hK
  obtain ⟨rfl, hZ, hh⟩ := hP
  have hx := Bd.exec
  have hby := Bd.bytes
  have hml : c.maxLocals = 8 := hml0
  have hown : s.vm.findClass "com/example/fielder/fielder/ForwardState" = some m.cls := findClass_of_methodNamed Bd.named
  have hnm := (name_of_methodNamed Bd.named Bd.method).1
  have X0 : Stand p l e ({ frames := 2, cells := 0, slots := 0, locals := 24 } : Room) s m #[(.ref a1), pv, (.long q3), (.long q4), (.long q5)] below meth c s₁ [] 0 0 := Stand.of_body Bd
  have e0 : s₁.heap = h0 := by rw [← hh, Bd.state]; rfl
  have N0 := Fr.nil n0
  refine go_st (fun t k => castTop (ef_ctor m a1 pv hpv q3 q4 q5) k) ?_
  show Go _ _ _ _ (s₁.setTop (mkF m 0 #[rv a1, .val pv, .val (.long q3), .second, .val (.long q4), .second, .val (.long q5), .second] []))
  refine go_st (fun t k => XS.aloadN X0.here hx rfl (hb hby d1_0) rfl rfl k) ?_
  show Go _ _ _ _ (s₁.setTop (mkF m 1 #[rv a1, .val pv, .val (.long q3), .second, .val (.long q4), .second, .val (.long q5), .second] [(.ref a1)]))
  obtain ⟨_, _, ⟨T1, L1, kk1, nn1⟩, -, X1, ⟨Lc1, hQ1, lq1, yq1, zq1⟩, st1⟩ := X0.specialBack hx (y := (⟨"java/lang/Record", "<init>", "()V"⟩ : MethodName)) rfl hown (mvT hZ (w36 hw)) (mvT hZ (w37 hw)) (mvT hZ (w40 hw)) (by decide) (backOf (W := 0) (rm_rec l Z a0 hw [] a1 h0 n0 (Nat.le_trans Z0 (Nat.le_refl _)) ) hZ (w40 hw) (w39 hw) (by decide) (by decide)) (g := (mkF m 1 #[rv a1, .val pv, .val (.long q3), .second, .val (.long q4), .second, .val (.long q5), .second] [(.ref a1)])) rfl (by rw [hml]; rfl) (Steps.refl _) (a := a1) (argsL := []) (rest := []) (lenOf pd_0 rfl) rfl (by show 2 * 0 + _ ≤ _; exact Nat.le_of_eq rfl) (hb hby d1_1) (fun _ _ => ⟨rfl, e0, (by decide : 0 + 0 ≤ _), (by decide : 0 + 0 ≤ _)⟩)
  dsimp only [Pt.U, Pt.locs, Pt.cells, Pt.slots] at X1 lq1 yq1 zq1 st1 hQ1
  subst lq1 yq1 zq1
  obtain ⟨h1, e1⟩ : ∃ z, T1.heap = z := ⟨_, rfl⟩
  rw [e1] at hQ1
  obtain ⟨rfl, N1q, he1⟩ := hQ1
  have N1 := Fr.app N0 N1q
  rw [he1] at e1
  refine go_tr st1 ?_
  show Go _ _ _ _ (T1.setTop (mkF m 4 #[rv a1, .val pv, .val (.long q3), .second, .val (.long q4), .second, .val (.long q5), .second] []))
  refine go_st (fun t k => XS.aloadN X1.here hx rfl (hb hby d1_4) rfl rfl k) ?_
  show Go _ _ _ _ (T1.setTop (mkF m 5 #[rv a1, .val pv, .val (.long q3), .second, .val (.long q4), .second, .val (.long q5), .second] [(.ref a1)]))
  refine go_st (fun t k => XS.aloadN X1.here hx rfl (hb hby d1_5) rfl hpv k) ?_
  show Go _ _ _ _ (T1.setTop (mkF m 6 #[rv a1, .val pv, .val (.long q3), .second, .val (.long q4), .second, .val (.long q5), .second] [pv, (.ref a1)]))
  obtain ⟨T2, h2, X2, e2, W2, st2⟩ := putF X1 hx hZ hown (host := "") (Or.inl (w42 hw)) Via.refl e1 H1 H0 (Or.inr ⟨(w43 hw), rfl, hnm⟩) (w31 hw) (ty := (.object "java/lang/String")) (by decide) (ref_narrow _ hpv) (ref_fits _ hpv) (g := (mkF m 6 #[rv a1, .val pv, .val (.long q3), .second, .val (.long q4), .second, .val (.long q5), .second] [pv, (.ref a1)])) rfl rfl (hb hby d1_6)
  have N2 := Fr.snoc X2 N1 g_a1
  have f3 : Fld Z h2 a1 "com/example/fielder/fielder/ForwardState" "messagePrefix" "Ljava/lang/String;" pv := H1.same W2
  refine go_st (fun t k => st2 t k) ?_
  show Go _ _ _ _ (T2.setTop (mkF m 9 #[rv a1, .val pv, .val (.long q3), .second, .val (.long q4), .second, .val (.long q5), .second] []))
  refine go_st (fun t k => XS.aloadN X2.here hx rfl (hb hby d1_9) rfl rfl k) ?_
  show Go _ _ _ _ (T2.setTop (mkF m 10 #[rv a1, .val pv, .val (.long q3), .second, .val (.long q4), .second, .val (.long q5), .second] [(.ref a1)]))
  refine go_st (fun t k => XS.lloadN X2.here hx rfl (hb hby d1_10) rfl k) ?_
  show Go _ _ _ _ (T2.setTop (mkF m 11 #[rv a1, .val pv, .val (.long q3), .second, .val (.long q4), .second, .val (.long q5), .second] [(.long q3), (.ref a1)]))
  have f4 : Fld Z h2 a1 "com/example/fielder/fielder/ForwardState" "refund" "J" (.long 0) := (H2.other W2 (Or.inr (slot_ne (Or.inr (w45 hw)) (Or.inr (w43 hw)) (by decide) (t := .long) (t' := (.object "java/lang/String")) (by decide) (by decide))))
  have f5 : Exa Z h2 a1 "com/example/fielder/fielder/ForwardState" := (H0.wr W2)
  obtain ⟨T6, h6, X6, e6, W6, st6⟩ := putF X2 hx hZ hown (host := "") (Or.inl (w44 hw)) Via.refl e2 f4 f5 (Or.inr ⟨(w45 hw), rfl, hnm⟩) (w31 hw) (ty := .long) (by decide) rfl rfl (g := (mkF m 11 #[rv a1, .val pv, .val (.long q3), .second, .val (.long q4), .second, .val (.long q5), .second] [(.long q3), (.ref a1)])) rfl rfl (hb hby d1_11)
  have N6 := Fr.snoc X6 N2 g_a1
  have f7 : Fld Z h6 a1 "com/example/fielder/fielder/ForwardState" "refund" "J" (.long q3) := f4.same W6
  refine go_st (fun t k => st6 t k) ?_
  show Go _ _ _ _ (T6.setTop (mkF m 14 #[rv a1, .val pv, .val (.long q3), .second, .val (.long q4), .second, .val (.long q5), .second] []))
  refine go_st (fun t k => XS.aloadN X6.here hx rfl (hb hby d1_14) rfl rfl k) ?_
  show Go _ _ _ _ (T6.setTop (mkF m 15 #[rv a1, .val pv, .val (.long q3), .second, .val (.long q4), .second, .val (.long q5), .second] [(.ref a1)]))
  refine go_st (fun t k => XS.lload X6.here hx rfl (hb hby d1_15) rfl k) ?_
  show Go _ _ _ _ (T6.setTop (mkF m 17 #[rv a1, .val pv, .val (.long q3), .second, .val (.long q4), .second, .val (.long q5), .second] [(.long q4), (.ref a1)]))
  have f8 : Fld Z h6 a1 "com/example/fielder/fielder/ForwardState" "conflict" "J" (.long 0) := ((H3.other W2 (Or.inr (slot_ne (Or.inr (w47 hw)) (Or.inr (w43 hw)) (by decide) (t := .long) (t' := (.object "java/lang/String")) (by decide) (by decide)))).other W6 (Or.inr (slot_ne (Or.inr (w47 hw)) (Or.inr (w45 hw)) (by decide) (t := .long) (t' := .long) (by decide) (by decide))))
  have f9 : Exa Z h6 a1 "com/example/fielder/fielder/ForwardState" := (f5.wr W6)
  obtain ⟨T10, h10, X10, e10, W10, st10⟩ := putF X6 hx hZ hown (host := "") (Or.inl (w46 hw)) Via.refl e6 f8 f9 (Or.inr ⟨(w47 hw), rfl, hnm⟩) (w31 hw) (ty := .long) (by decide) rfl rfl (g := (mkF m 17 #[rv a1, .val pv, .val (.long q3), .second, .val (.long q4), .second, .val (.long q5), .second] [(.long q4), (.ref a1)])) rfl rfl (hb hby d1_17)
  have N10 := Fr.snoc X10 N6 g_a1
  have f11 : Fld Z h10 a1 "com/example/fielder/fielder/ForwardState" "conflict" "J" (.long q4) := f8.same W10
  refine go_st (fun t k => st10 t k) ?_
  show Go _ _ _ _ (T10.setTop (mkF m 20 #[rv a1, .val pv, .val (.long q3), .second, .val (.long q4), .second, .val (.long q5), .second] []))
  refine go_st (fun t k => XS.aloadN X10.here hx rfl (hb hby d1_20) rfl rfl k) ?_
  show Go _ _ _ _ (T10.setTop (mkF m 21 #[rv a1, .val pv, .val (.long q3), .second, .val (.long q4), .second, .val (.long q5), .second] [(.ref a1)]))
  refine go_st (fun t k => XS.lload X10.here hx rfl (hb hby d1_21) rfl k) ?_
  show Go _ _ _ _ (T10.setTop (mkF m 23 #[rv a1, .val pv, .val (.long q3), .second, .val (.long q4), .second, .val (.long q5), .second] [(.long q5), (.ref a1)]))
  have f12 : Fld Z h10 a1 "com/example/fielder/fielder/ForwardState" "received" "J" (.long 0) := (((H4.other W2 (Or.inr (slot_ne (Or.inr (w49 hw)) (Or.inr (w43 hw)) (by decide) (t := .long) (t' := (.object "java/lang/String")) (by decide) (by decide)))).other W6 (Or.inr (slot_ne (Or.inr (w49 hw)) (Or.inr (w45 hw)) (by decide) (t := .long) (t' := .long) (by decide) (by decide)))).other W10 (Or.inr (slot_ne (Or.inr (w49 hw)) (Or.inr (w47 hw)) (by decide) (t := .long) (t' := .long) (by decide) (by decide))))
  have f13 : Exa Z h10 a1 "com/example/fielder/fielder/ForwardState" := (f9.wr W10)
  obtain ⟨T14, h14, X14, e14, W14, st14⟩ := putF X10 hx hZ hown (host := "") (Or.inl (w48 hw)) Via.refl e10 f12 f13 (Or.inr ⟨(w49 hw), rfl, hnm⟩) (w31 hw) (ty := .long) (by decide) rfl rfl (g := (mkF m 23 #[rv a1, .val pv, .val (.long q3), .second, .val (.long q4), .second, .val (.long q5), .second] [(.long q5), (.ref a1)])) rfl rfl (hb hby d1_23)
  have N14 := Fr.snoc X14 N10 g_a1
  have f15 : Fld Z h14 a1 "com/example/fielder/fielder/ForwardState" "received" "J" (.long q5) := f12.same W14
  refine go_st (fun t k => st14 t k) ?_
  show Go _ _ _ _ (T14.setTop (mkF m 26 #[rv a1, .val pv, .val (.long q3), .second, .val (.long q4), .second, .val (.long q5), .second] []))
  have f16 : Exa Z h14 a1 "com/example/fielder/fielder/ForwardState" := (f13.wr W14)
  have f17 : Fld Z h14 a1 "com/example/fielder/fielder/ForwardState" "messagePrefix" "Ljava/lang/String;" pv := (((f3.other W6 (Or.inr (slot_ne (Or.inr (w43 hw)) (Or.inr (w45 hw)) (by decide) (t := (.object "java/lang/String")) (t' := .long) (by decide) (by decide)))).other W10 (Or.inr (slot_ne (Or.inr (w43 hw)) (Or.inr (w47 hw)) (by decide) (t := (.object "java/lang/String")) (t' := .long) (by decide) (by decide)))).other W14 (Or.inr (slot_ne (Or.inr (w43 hw)) (Or.inr (w49 hw)) (by decide) (t := (.object "java/lang/String")) (t' := .long) (by decide) (by decide))))
  have f18 : Fld Z h14 a1 "com/example/fielder/fielder/ForwardState" "refund" "J" (.long q3) := ((f7.other W10 (Or.inr (slot_ne (Or.inr (w45 hw)) (Or.inr (w47 hw)) (by decide) (t := .long) (t' := .long) (by decide) (by decide)))).other W14 (Or.inr (slot_ne (Or.inr (w45 hw)) (Or.inr (w49 hw)) (by decide) (t := .long) (t' := .long) (by decide) (by decide))))
  have f19 : Fld Z h14 a1 "com/example/fielder/fielder/ForwardState" "conflict" "J" (.long q4) := (f11.other W14 (Or.inr (slot_ne (Or.inr (w47 hw)) (Or.inr (w49 hw)) (by decide) (t := .long) (t' := .long) (by decide) (by decide))))
  have ke20 : Keep h0 h2 [a1] := (Keep.wr (Keep.refl h0 [a1]) W2 (Or.inl (List.mem_of_getElem? (i := 0) rfl)))
  have ke21 : Keep h0 h6 [a1] := (Keep.wr ke20 W6 (Or.inl (List.mem_of_getElem? (i := 0) rfl)))
  have ke22 : Keep h0 h10 [a1] := (Keep.wr ke21 W10 (Or.inl (List.mem_of_getElem? (i := 0) rfl)))
  have ke23 : Keep h0 h14 [a1] := (Keep.wr ke22 W14 (Or.inl (List.mem_of_getElem? (i := 0) rfl)))
  obtain ⟨fs, hr, hrun, hended, hW, hsame⟩ := X14.leave (v := none) (fun _ => rfl)
  refine ⟨_, _, ?_, hrun, hended, _, _, rfl, ?_, ⟨_, rfl⟩, hW, hsame.mono (by decide) (by decide)⟩
  · exact X14.returnOut hx Bd.returns (hb hby d1_26) hr
  · show Q_ctor _ _ _ _ _ _ _ _ _ T14.heap _
    rw [e14]
    exact ⟨rfl, N14, ke23, f16, f17, f18, f19, f15⟩
def Q_past (Z : State) (a1 : Addr) (q2 : Int64) (pv : Value) (r0 : Int64) (c0 : Int64) (v0 : Int64) (h0 : Heap) (n0 : Nat) (vR : Option Value) (h : Heap) (L : List Loc) : Prop := ∃ (b : Addr), vR = some (.ref b) ∧ Fr n0 L ∧ Keep h0 h [] ∧ n0 ≤ b ∧ h0.size ≤ b ∧ (Exa Z h b "com/example/fielder/fielder/ForwardState") ∧ (Fld Z h b "com/example/fielder/fielder/ForwardState" "messagePrefix" "Ljava/lang/String;" pv) ∧ (Fld Z h b "com/example/fielder/fielder/ForwardState" "refund" "J" (.long r0)) ∧ (Fld Z h b "com/example/fielder/fielder/ForwardState" "conflict" "J" (.long q2)) ∧ (Fld Z h b "com/example/fielder/fielder/ForwardState" "received" "J" (.long (v0 + (1 : Int64))))
theorem ef_past (m : MethodId) (x0 : Addr) (x1 : Int64) : entryFrame m #[(.ref x0), (.long x1)] 3 = mkF m 0 #[.val (.ref x0), .val (.long x1), .second] [] := by first | (simp [entryFrame, mkF, argsToLocals, Value.category]; done) | rfl
set_option maxRecDepth 65536 in
set_option maxHeartbeats 40000000 in
theorem rm_past (l : Launch) (Z : State) (a0 : Array Value) (hw : ∀ d ∈ tables_1, d.before a0 Z = true) (ws : List Jvm.Cond) (a1 : Addr) (q2 : Int64) (pv : Value) (r0 : Int64) (c0 : Int64) (v0 : Int64) (h0 : Heap) (n0 : Nat) (Z0 : n0 ≤ h0.size) (H0 : Fld Z h0 a1 "com/example/fielder/fielder/ForwardState" "messagePrefix" "Ljava/lang/String;" pv) (H1 : Fld Z h0 a1 "com/example/fielder/fielder/ForwardState" "refund" "J" (.long r0)) (H2 : Fld Z h0 a1 "com/example/fielder/fielder/ForwardState" "conflict" "J" (.long c0)) (H3 : Fld Z h0 a1 "com/example/fielder/fielder/ForwardState" "received" "J" (.long v0)) (hpv : pv.isRef = true) :
    MetFree l (⟨"com/example/fielder/fielder/ForwardState", "pastConflict", "(J)Lcom/example/fielder/fielder/ForwardState;"⟩ : MethodName) (head1 (Jvm.Cond.code (⟨"com/example/fielder/fielder/ForwardState", "pastConflict", "(J)Lcom/example/fielder/fielder/ForwardState;"⟩ : MethodName) prog_5_method_3_code 3 (some (.object "com/example/fielder/fielder/ForwardState")) :: ws) ({ frames := 3, cells := 1, slots := 4, locals := 44 } : Room)) (fun a U => a = #[(.ref a1), (.long q2)] ∧ Z.Warmed39 U.vm ∧ U.heap = h0) (fun _ _ _ _ _ => True) (fun _ U o U' => ∃ v L, o = .returned v ∧ Q_past Z a1 q2 pv r0 c0 v0 h0 n0 v U'.heap L ∧ FrameEnd U o U' L ({ frames := 3, cells := 1, slots := 4, locals := 44 } : Room).cells ({ frames := 3, cells := 1, slots := 4, locals := 44 } : Room).slots) := by
  refine MetFree.of_bodySF (plainFor_of_name pn_com_example_fielder_fielder_ForwardState) hisR ?_
  intro p e s m args below meth c s₁ Bd hml0 hP hK
  obtain ⟨rfl, hZ, hh⟩ := hP
  have hx := Bd.exec
  have hby := Bd.bytes
  have hml : c.maxLocals = 3 := hml0
  have hown : s.vm.findClass "com/example/fielder/fielder/ForwardState" = some m.cls := findClass_of_methodNamed Bd.named
  have hnm := (name_of_methodNamed Bd.named Bd.method).1
  have X0 : Stand p l e ({ frames := 3, cells := 1, slots := 4, locals := 44 } : Room) s m #[(.ref a1), (.long q2)] below meth c s₁ [] 0 0 := Stand.of_body Bd
  have e0 : s₁.heap = h0 := by rw [← hh, Bd.state]; rfl
  have N0 := Fr.nil n0
  refine go_st (fun t k => castTop (ef_past m a1 q2) k) ?_
  show Go _ _ _ _ (s₁.setTop (mkF m 0 #[rv a1, .val (.long q2), .second] []))
  obtain ⟨T1, h1, X1, e1, E1, A1, D1, -, st1⟩ := newO X0 hx hZ hown (w55 hw) (w31 hw) (w32 hw) e0 (g := (mkF m 0 #[rv a1, .val (.long q2), .second] [])) rfl (hb hby d2_0) (by decide) (by decide)
  obtain ⟨b1, gq1⟩ : ∃ z, z = h0.size := ⟨_, rfl⟩
  rw [← gq1] at A1 D1 st1
  have f2 : Fld Z h1 b1 "com/example/fielder/fielder/ForwardState" "messagePrefix" "Ljava/lang/String;" .null := D1 (Or.inr (w43 hw)) (ty := (.object "java/lang/String")) (by decide)
  have f3 : Fld Z h1 b1 "com/example/fielder/fielder/ForwardState" "refund" "J" (.long 0) := D1 (Or.inr (w45 hw)) (ty := .long) (by decide)
  have f4 : Fld Z h1 b1 "com/example/fielder/fielder/ForwardState" "conflict" "J" (.long 0) := D1 (Or.inr (w47 hw)) (ty := .long) (by decide)
  have f5 : Fld Z h1 b1 "com/example/fielder/fielder/ForwardState" "received" "J" (.long 0) := D1 (Or.inr (w49 hw)) (ty := .long) (by decide)
  refine go_st (fun t k => st1 t k) ?_
  show Go _ _ _ _ (T1.setTop (mkF m 3 #[rv a1, .val (.long q2), .second] [(.ref b1)]))
  refine go_st (fun t k => XS.dup X1.here hx rfl (hb hby d2_3) rfl rfl k) ?_
  show Go _ _ _ _ (T1.setTop (mkF m 4 #[rv a1, .val (.long q2), .second] [(.ref b1), (.ref b1)]))
  refine go_st (fun t k => XS.aloadN X1.here hx rfl (hb hby d2_4) rfl rfl k) ?_
  show Go _ _ _ _ (T1.setTop (mkF m 5 #[rv a1, .val (.long q2), .second] [(.ref a1), (.ref b1), (.ref b1)]))
  have f6 : Fld Z h1 a1 "com/example/fielder/fielder/ForwardState" "messagePrefix" "Ljava/lang/String;" pv := (H0.ext E1)
  obtain ⟨T7, X7, e7, st7⟩ := getF X1 hx hZ hown (host := "") (Or.inl (w42 hw)) Via.refl e1 f6 (g := (mkF m 5 #[rv a1, .val (.long q2), .second] [(.ref a1), (.ref b1), (.ref b1)])) rfl rfl (hb hby d2_5)
  refine go_st (fun t k => st7 t k) ?_
  show Go _ _ _ _ (T7.setTop (mkF m 8 #[rv a1, .val (.long q2), .second] [pv, (.ref b1), (.ref b1)]))
  refine go_st (fun t k => XS.aloadN X7.here hx rfl (hb hby d2_8) rfl rfl k) ?_
  show Go _ _ _ _ (T7.setTop (mkF m 9 #[rv a1, .val (.long q2), .second] [(.ref a1), pv, (.ref b1), (.ref b1)]))
  have f8 : Fld Z h1 a1 "com/example/fielder/fielder/ForwardState" "refund" "J" (.long r0) := (H1.ext E1)
  obtain ⟨T9, X9, e9, st9⟩ := getF X7 hx hZ hown (host := "") (Or.inl (w44 hw)) Via.refl e7 f8 (g := (mkF m 9 #[rv a1, .val (.long q2), .second] [(.ref a1), pv, (.ref b1), (.ref b1)])) rfl rfl (hb hby d2_9)
  refine go_st (fun t k => st9 t k) ?_
  show Go _ _ _ _ (T9.setTop (mkF m 12 #[rv a1, .val (.long q2), .second] [(.long r0), pv, (.ref b1), (.ref b1)]))
  refine go_st (fun t k => XS.lloadN X9.here hx rfl (hb hby d2_12) rfl k) ?_
  show Go _ _ _ _ (T9.setTop (mkF m 13 #[rv a1, .val (.long q2), .second] [(.long q2), (.long r0), pv, (.ref b1), (.ref b1)]))
  refine go_st (fun t k => XS.aloadN X9.here hx rfl (hb hby d2_13) rfl rfl k) ?_
  show Go _ _ _ _ (T9.setTop (mkF m 14 #[rv a1, .val (.long q2), .second] [(.ref a1), (.long q2), (.long r0), pv, (.ref b1), (.ref b1)]))
  have f10 : Fld Z h1 a1 "com/example/fielder/fielder/ForwardState" "received" "J" (.long v0) := (H3.ext E1)
  obtain ⟨T11, X11, e11, st11⟩ := getF X9 hx hZ hown (host := "") (Or.inl (w48 hw)) Via.refl e9 f10 (g := (mkF m 14 #[rv a1, .val (.long q2), .second] [(.ref a1), (.long q2), (.long r0), pv, (.ref b1), (.ref b1)])) rfl rfl (hb hby d2_14)
  refine go_st (fun t k => st11 t k) ?_
  show Go _ _ _ _ (T11.setTop (mkF m 17 #[rv a1, .val (.long q2), .second] [(.long v0), (.long q2), (.long r0), pv, (.ref b1), (.ref b1)]))
  refine go_st (fun t k => XS.lconst X11.here hx rfl (hb hby d2_17) k) ?_
  show Go _ _ _ _ (T11.setTop (mkF m 18 #[rv a1, .val (.long q2), .second] [(.long 1), (.long v0), (.long q2), (.long r0), pv, (.ref b1), (.ref b1)]))
  refine go_st (fun t k => XS.ladd X11.here hx rfl (hb hby d2_18) rfl k) ?_
  show Go _ _ _ _ (T11.setTop (mkF m 19 #[rv a1, .val (.long q2), .second] [(.long (v0 + (1 : Int64))), (.long q2), (.long r0), pv, (.ref b1), (.ref b1)]))
  have g_b1 : n0 ≤ b1 := Nat.le_trans (Nat.le_trans Z0 (Nat.le_refl _)) (Nat.le_of_eq gq1.symm)
  obtain ⟨_, _, ⟨T12, L12, kk12, nn12⟩, -, X12, ⟨Lc12, hQ12, lq12, yq12, zq12⟩, st12⟩ := X11.specialBack hx (y := (⟨"com/example/fielder/fielder/ForwardState", "<init>", "(Ljava/lang/String;JJJ)V"⟩ : MethodName)) rfl hown (mvT hZ (w56 hw)) (mvT hZ (w34 hw)) (mvT hZ (w35 hw)) (by decide) (backOf (W := 1) (rm_ctor l Z a0 hw [] b1 pv r0 q2 (v0 + (1 : Int64)) h1 n0 (Nat.le_trans Z0 E1.1) A1 f2 f3 f4 f5 g_b1 hpv) hZ (w35 hw) (w32 hw) (by decide) (by decide)) (g := (mkF m 19 #[rv a1, .val (.long q2), .second] [(.long (v0 + (1 : Int64))), (.long q2), (.long r0), pv, (.ref b1), (.ref b1)])) rfl (by rw [hml]; rfl) (Steps.refl _) (a := b1) (argsL := [pv, (.long r0), (.long q2), (.long (v0 + (1 : Int64)))]) (rest := [(.ref b1)]) (lenOf pd_1 rfl) rfl (by show 2 * 0 + _ ≤ _; exact Nat.le_of_eq rfl) (hb hby d2_19) (fun _ _ => ⟨rfl, e11, (by decide : 1 + 0 ≤ _), (by decide : 4 + 0 ≤ _)⟩)
  dsimp only [Pt.U, Pt.locs, Pt.cells, Pt.slots] at X12 lq12 yq12 zq12 st12 hQ12
  subst lq12 yq12 zq12
  obtain ⟨h12, e12⟩ : ∃ z, T12.heap = z := ⟨_, rfl⟩
  rw [e12] at hQ12
  obtain ⟨rfl, N12q, K12, p12_0, p12_1, p12_2, p12_3, p12_4⟩ := hQ12
  have N12 := Fr.app N0 N12q
  refine go_tr st12 ?_
  show Go _ _ _ _ (T12.setTop (mkF m 22 #[rv a1, .val (.long q2), .second] [(.ref b1)]))
  have ke13 : Keep h0 h1 [] := (Keep.ext (Keep.refl h0 []) E1)
  have ke14 : Keep h0 h12 [] := (Keep.trans ke13 K12 (allS (Or.inr (Nat.le_of_eq gq1.symm)) all0))
  obtain ⟨fs, hr, hrun, hended, hW, hsame⟩ := X12.leave (v := some (.ref b1)) (fun h => by rw [Bd.returns] at h; cases h)
  refine ⟨_, _, ?_, hrun, hended, _, _, rfl, ?_, ⟨_, rfl⟩, hW, hsame.mono (by decide) (by decide)⟩
  · exact retOut X12 hx Bd.returns rfl (Or.inr (Or.inr (Or.inr (Or.inr ⟨rfl, rfl, rfl⟩)))) (hb hby d2_22) hr
  · show Q_past _ _ _ _ _ _ _ _ _ _ T12.heap _
    rw [e12]
    exact ⟨b1, rfl, N12, ke14, g_b1, (Nat.le_of_eq gq1.symm), p12_0, p12_1, p12_2, p12_3, p12_4⟩
def Q_gp (Z : State) (a1 : Addr) (pv : Value) (h0 : Heap) (n0 : Nat) (vR : Option Value) (h : Heap) (L : List Loc) : Prop := vR = some pv ∧ Fr n0 L ∧ h = h0
theorem ef_gp (m : MethodId) (x0 : Addr) : entryFrame m #[(.ref x0)] 1 = mkF m 0 #[.val (.ref x0)] [] := by first | (simp [entryFrame, mkF, argsToLocals, Value.category]; done) | rfl
set_option maxRecDepth 65536 in
set_option maxHeartbeats 40000000 in
theorem rm_gp (l : Launch) (Z : State) (a0 : Array Value) (hw : ∀ d ∈ tables_1, d.before a0 Z = true) (ws : List Jvm.Cond) (a1 : Addr) (pv : Value) (h0 : Heap) (n0 : Nat) (Z0 : n0 ≤ h0.size) (H0 : Fld Z h0 a1 "com/example/fielder/fielder/ForwardState" "messagePrefix" "Ljava/lang/String;" pv) (hpv : pv.isRef = true) :
    MetFree l (⟨"com/example/fielder/fielder/ForwardState", "messagePrefix", "()Ljava/lang/String;"⟩ : MethodName) (head1 (Jvm.Cond.code (⟨"com/example/fielder/fielder/ForwardState", "messagePrefix", "()Ljava/lang/String;"⟩ : MethodName) prog_5_method_7_code 1 (some (.object "java/lang/String")) :: ws) ({ frames := 0, cells := 0, slots := 0, locals := 0 } : Room)) (fun a U => a = #[(.ref a1)] ∧ Z.Warmed39 U.vm ∧ U.heap = h0) (fun _ _ _ _ _ => True) (fun _ U o U' => ∃ v L, o = .returned v ∧ Q_gp Z a1 pv h0 n0 v U'.heap L ∧ FrameEnd U o U' L ({ frames := 0, cells := 0, slots := 0, locals := 0 } : Room).cells ({ frames := 0, cells := 0, slots := 0, locals := 0 } : Room).slots) := by
  refine MetFree.of_bodySF (plainFor_of_name pn_com_example_fielder_fielder_ForwardState) hisR ?_
  intro p e s m args below meth c s₁ Bd hml0 hP hK
  obtain ⟨rfl, hZ, hh⟩ := hP
  have hx := Bd.exec
  have hby := Bd.bytes
  have hml : c.maxLocals = 1 := hml0
  have hown : s.vm.findClass "com/example/fielder/fielder/ForwardState" = some m.cls := findClass_of_methodNamed Bd.named
  have hnm := (name_of_methodNamed Bd.named Bd.method).1
  have X0 : Stand p l e ({ frames := 0, cells := 0, slots := 0, locals := 0 } : Room) s m #[(.ref a1)] below meth c s₁ [] 0 0 := Stand.of_body Bd
  have e0 : s₁.heap = h0 := by rw [← hh, Bd.state]; rfl
  have N0 := Fr.nil n0
  refine go_st (fun t k => castTop (ef_gp m a1) k) ?_
  show Go _ _ _ _ (s₁.setTop (mkF m 0 #[rv a1] []))
  refine go_st (fun t k => XS.aloadN X0.here hx rfl (hb hby d3_0) rfl rfl k) ?_
  show Go _ _ _ _ (s₁.setTop (mkF m 1 #[rv a1] [(.ref a1)]))
  obtain ⟨T1, X1, e1, st1⟩ := getF X0 hx hZ hown (host := "") (Or.inl (w42 hw)) Via.refl e0 H0 (g := (mkF m 1 #[rv a1] [(.ref a1)])) rfl rfl (hb hby d3_1)
  refine go_st (fun t k => st1 t k) ?_
  show Go _ _ _ _ (T1.setTop (mkF m 4 #[rv a1] [pv]))
  obtain ⟨fs, hr, hrun, hended, hW, hsame⟩ := X1.leave (v := some pv) (fun h => by rw [Bd.returns] at h; cases h)
  refine ⟨_, _, ?_, hrun, hended, _, _, rfl, ?_, ⟨_, rfl⟩, hW, hsame.mono (by decide) (by decide)⟩
  · exact retOut X1 hx Bd.returns (ref_narrow _ hpv) (Or.inr (Or.inr (Or.inr (Or.inr ⟨rfl, rfl, hpv⟩)))) (hb hby d3_4) hr
  · show Q_gp _ _ _ _ _ _ T1.heap _
    rw [e1]
    exact ⟨rfl, N0, rfl⟩
def Q_g_refund (Z : State) (a1 : Addr) (q : Int64) (h0 : Heap) (n0 : Nat) (vR : Option Value) (h : Heap) (L : List Loc) : Prop := vR = some (.long q) ∧ Fr n0 L ∧ h = h0
theorem ef_g_refund (m : MethodId) (x0 : Addr) : entryFrame m #[(.ref x0)] 1 = mkF m 0 #[.val (.ref x0)] [] := by first | (simp [entryFrame, mkF, argsToLocals, Value.category]; done) | rfl
set_option maxRecDepth 65536 in
set_option maxHeartbeats 40000000 in
theorem rm_g_refund (l : Launch) (Z : State) (a0 : Array Value) (hw : ∀ d ∈ tables_1, d.before a0 Z = true) (ws : List Jvm.Cond) (a1 : Addr) (q : Int64) (h0 : Heap) (n0 : Nat) (Z0 : n0 ≤ h0.size) (H0 : Fld Z h0 a1 "com/example/fielder/fielder/ForwardState" "refund" "J" (.long q)) :
    MetFree l (⟨"com/example/fielder/fielder/ForwardState", "refund", "()J"⟩ : MethodName) (head1 (Jvm.Cond.code (⟨"com/example/fielder/fielder/ForwardState", "refund", "()J"⟩ : MethodName) prog_5_method_8_code 1 (some .long) :: ws) ({ frames := 0, cells := 0, slots := 0, locals := 0 } : Room)) (fun a U => a = #[(.ref a1)] ∧ Z.Warmed39 U.vm ∧ U.heap = h0) (fun _ _ _ _ _ => True) (fun _ U o U' => ∃ v L, o = .returned v ∧ Q_g_refund Z a1 q h0 n0 v U'.heap L ∧ FrameEnd U o U' L ({ frames := 0, cells := 0, slots := 0, locals := 0 } : Room).cells ({ frames := 0, cells := 0, slots := 0, locals := 0 } : Room).slots) := by
  refine MetFree.of_bodySF (plainFor_of_name pn_com_example_fielder_fielder_ForwardState) hisR ?_
  intro p e s m args below meth c s₁ Bd hml0 hP hK
  obtain ⟨rfl, hZ, hh⟩ := hP
  have hx := Bd.exec
  have hby := Bd.bytes
  have hml : c.maxLocals = 1 := hml0
  have hown : s.vm.findClass "com/example/fielder/fielder/ForwardState" = some m.cls := findClass_of_methodNamed Bd.named
  have hnm := (name_of_methodNamed Bd.named Bd.method).1
  have X0 : Stand p l e ({ frames := 0, cells := 0, slots := 0, locals := 0 } : Room) s m #[(.ref a1)] below meth c s₁ [] 0 0 := Stand.of_body Bd
  have e0 : s₁.heap = h0 := by rw [← hh, Bd.state]; rfl
  have N0 := Fr.nil n0
  refine go_st (fun t k => castTop (ef_g_refund m a1) k) ?_
  show Go _ _ _ _ (s₁.setTop (mkF m 0 #[rv a1] []))
  refine go_st (fun t k => XS.aloadN X0.here hx rfl (hb hby d4_0) rfl rfl k) ?_
  show Go _ _ _ _ (s₁.setTop (mkF m 1 #[rv a1] [(.ref a1)]))
  obtain ⟨T1, X1, e1, st1⟩ := getF X0 hx hZ hown (host := "") (Or.inl (w44 hw)) Via.refl e0 H0 (g := (mkF m 1 #[rv a1] [(.ref a1)])) rfl rfl (hb hby d4_1)
  refine go_st (fun t k => st1 t k) ?_
  show Go _ _ _ _ (T1.setTop (mkF m 4 #[rv a1] [(.long q)]))
  obtain ⟨fs, hr, hrun, hended, hW, hsame⟩ := X1.leave (v := some (.long q)) (fun h => by rw [Bd.returns] at h; cases h)
  refine ⟨_, _, ?_, hrun, hended, _, _, rfl, ?_, ⟨_, rfl⟩, hW, hsame.mono (by decide) (by decide)⟩
  · exact retOut X1 hx Bd.returns rfl (Or.inr (Or.inl ⟨rfl, rfl, _, rfl⟩)) (hb hby d4_4) hr
  · show Q_g_refund _ _ _ _ _ _ T1.heap _
    rw [e1]
    exact ⟨rfl, N0, rfl⟩
def Q_g_conflict (Z : State) (a1 : Addr) (q : Int64) (h0 : Heap) (n0 : Nat) (vR : Option Value) (h : Heap) (L : List Loc) : Prop := vR = some (.long q) ∧ Fr n0 L ∧ h = h0
theorem ef_g_conflict (m : MethodId) (x0 : Addr) : entryFrame m #[(.ref x0)] 1 = mkF m 0 #[.val (.ref x0)] [] := by first | (simp [entryFrame, mkF, argsToLocals, Value.category]; done) | rfl
set_option maxRecDepth 65536 in
set_option maxHeartbeats 40000000 in
theorem rm_g_conflict (l : Launch) (Z : State) (a0 : Array Value) (hw : ∀ d ∈ tables_1, d.before a0 Z = true) (ws : List Jvm.Cond) (a1 : Addr) (q : Int64) (h0 : Heap) (n0 : Nat) (Z0 : n0 ≤ h0.size) (H0 : Fld Z h0 a1 "com/example/fielder/fielder/ForwardState" "conflict" "J" (.long q)) :
    MetFree l (⟨"com/example/fielder/fielder/ForwardState", "conflict", "()J"⟩ : MethodName) (head1 (Jvm.Cond.code (⟨"com/example/fielder/fielder/ForwardState", "conflict", "()J"⟩ : MethodName) prog_5_method_9_code 1 (some .long) :: ws) ({ frames := 0, cells := 0, slots := 0, locals := 0 } : Room)) (fun a U => a = #[(.ref a1)] ∧ Z.Warmed39 U.vm ∧ U.heap = h0) (fun _ _ _ _ _ => True) (fun _ U o U' => ∃ v L, o = .returned v ∧ Q_g_conflict Z a1 q h0 n0 v U'.heap L ∧ FrameEnd U o U' L ({ frames := 0, cells := 0, slots := 0, locals := 0 } : Room).cells ({ frames := 0, cells := 0, slots := 0, locals := 0 } : Room).slots) := by
  refine MetFree.of_bodySF (plainFor_of_name pn_com_example_fielder_fielder_ForwardState) hisR ?_
  intro p e s m args below meth c s₁ Bd hml0 hP hK
  obtain ⟨rfl, hZ, hh⟩ := hP
  have hx := Bd.exec
  have hby := Bd.bytes
  have hml : c.maxLocals = 1 := hml0
  have hown : s.vm.findClass "com/example/fielder/fielder/ForwardState" = some m.cls := findClass_of_methodNamed Bd.named
  have hnm := (name_of_methodNamed Bd.named Bd.method).1
  have X0 : Stand p l e ({ frames := 0, cells := 0, slots := 0, locals := 0 } : Room) s m #[(.ref a1)] below meth c s₁ [] 0 0 := Stand.of_body Bd
  have e0 : s₁.heap = h0 := by rw [← hh, Bd.state]; rfl
  have N0 := Fr.nil n0
  refine go_st (fun t k => castTop (ef_g_conflict m a1) k) ?_
  show Go _ _ _ _ (s₁.setTop (mkF m 0 #[rv a1] []))
  refine go_st (fun t k => XS.aloadN X0.here hx rfl (hb hby d5_0) rfl rfl k) ?_
  show Go _ _ _ _ (s₁.setTop (mkF m 1 #[rv a1] [(.ref a1)]))
  obtain ⟨T1, X1, e1, st1⟩ := getF X0 hx hZ hown (host := "") (Or.inl (w46 hw)) Via.refl e0 H0 (g := (mkF m 1 #[rv a1] [(.ref a1)])) rfl rfl (hb hby d5_1)
  refine go_st (fun t k => st1 t k) ?_
  show Go _ _ _ _ (T1.setTop (mkF m 4 #[rv a1] [(.long q)]))
  obtain ⟨fs, hr, hrun, hended, hW, hsame⟩ := X1.leave (v := some (.long q)) (fun h => by rw [Bd.returns] at h; cases h)
  refine ⟨_, _, ?_, hrun, hended, _, _, rfl, ?_, ⟨_, rfl⟩, hW, hsame.mono (by decide) (by decide)⟩
  · exact retOut X1 hx Bd.returns rfl (Or.inr (Or.inl ⟨rfl, rfl, _, rfl⟩)) (hb hby d5_4) hr
  · show Q_g_conflict _ _ _ _ _ _ T1.heap _
    rw [e1]
    exact ⟨rfl, N0, rfl⟩
def Q_g_received (Z : State) (a1 : Addr) (q : Int64) (h0 : Heap) (n0 : Nat) (vR : Option Value) (h : Heap) (L : List Loc) : Prop := vR = some (.long q) ∧ Fr n0 L ∧ h = h0
theorem ef_g_received (m : MethodId) (x0 : Addr) : entryFrame m #[(.ref x0)] 1 = mkF m 0 #[.val (.ref x0)] [] := by first | (simp [entryFrame, mkF, argsToLocals, Value.category]; done) | rfl
set_option maxRecDepth 65536 in
set_option maxHeartbeats 40000000 in
theorem rm_g_received (l : Launch) (Z : State) (a0 : Array Value) (hw : ∀ d ∈ tables_1, d.before a0 Z = true) (ws : List Jvm.Cond) (a1 : Addr) (q : Int64) (h0 : Heap) (n0 : Nat) (Z0 : n0 ≤ h0.size) (H0 : Fld Z h0 a1 "com/example/fielder/fielder/ForwardState" "received" "J" (.long q)) :
    MetFree l (⟨"com/example/fielder/fielder/ForwardState", "received", "()J"⟩ : MethodName) (head1 (Jvm.Cond.code (⟨"com/example/fielder/fielder/ForwardState", "received", "()J"⟩ : MethodName) prog_5_method_10_code 1 (some .long) :: ws) ({ frames := 0, cells := 0, slots := 0, locals := 0 } : Room)) (fun a U => a = #[(.ref a1)] ∧ Z.Warmed39 U.vm ∧ U.heap = h0) (fun _ _ _ _ _ => True) (fun _ U o U' => ∃ v L, o = .returned v ∧ Q_g_received Z a1 q h0 n0 v U'.heap L ∧ FrameEnd U o U' L ({ frames := 0, cells := 0, slots := 0, locals := 0 } : Room).cells ({ frames := 0, cells := 0, slots := 0, locals := 0 } : Room).slots) := by
  refine MetFree.of_bodySF (plainFor_of_name pn_com_example_fielder_fielder_ForwardState) hisR ?_
  intro p e s m args below meth c s₁ Bd hml0 hP hK
  obtain ⟨rfl, hZ, hh⟩ := hP
  have hx := Bd.exec
  have hby := Bd.bytes
  have hml : c.maxLocals = 1 := hml0
  have hown : s.vm.findClass "com/example/fielder/fielder/ForwardState" = some m.cls := findClass_of_methodNamed Bd.named
  have hnm := (name_of_methodNamed Bd.named Bd.method).1
  have X0 : Stand p l e ({ frames := 0, cells := 0, slots := 0, locals := 0 } : Room) s m #[(.ref a1)] below meth c s₁ [] 0 0 := Stand.of_body Bd
  have e0 : s₁.heap = h0 := by rw [← hh, Bd.state]; rfl
  have N0 := Fr.nil n0
  refine go_st (fun t k => castTop (ef_g_received m a1) k) ?_
  show Go _ _ _ _ (s₁.setTop (mkF m 0 #[rv a1] []))
  refine go_st (fun t k => XS.aloadN X0.here hx rfl (hb hby d6_0) rfl rfl k) ?_
  show Go _ _ _ _ (s₁.setTop (mkF m 1 #[rv a1] [(.ref a1)]))
  obtain ⟨T1, X1, e1, st1⟩ := getF X0 hx hZ hown (host := "") (Or.inl (w48 hw)) Via.refl e0 H0 (g := (mkF m 1 #[rv a1] [(.ref a1)])) rfl rfl (hb hby d6_1)
  refine go_st (fun t k => st1 t k) ?_
  show Go _ _ _ _ (T1.setTop (mkF m 4 #[rv a1] [(.long q)]))
  obtain ⟨fs, hr, hrun, hended, hW, hsame⟩ := X1.leave (v := some (.long q)) (fun h => by rw [Bd.returns] at h; cases h)
  refine ⟨_, _, ?_, hrun, hended, _, _, rfl, ?_, ⟨_, rfl⟩, hW, hsame.mono (by decide) (by decide)⟩
  · exact retOut X1 hx Bd.returns rfl (Or.inr (Or.inl ⟨rfl, rfl, _, rfl⟩)) (hb hby d6_4) hr
  · show Q_g_received _ _ _ _ _ _ T1.heap _
    rw [e1]
    exact ⟨rfl, N0, rfl⟩
def Q_law (Z : State) (p1 : Int32) (q2 : Int64) (q3 : Int64) (q4 : Int64) (q5 : Int64) (G1 : Int32) (h0 : Heap) (n0 : Nat) (vR : Option Value) (h : Heap) (L : List Loc) : Prop := vR = some (.int 1) ∧ Fr n0 L ∧ Keep h0 h []
theorem ef_law (m : MethodId) (x0 : Int32) (x1 : Int64) (x2 : Int64) (x3 : Int64) (x4 : Int64) : entryFrame m #[(.int x0), (.long x1), (.long x2), (.long x3), (.long x4)] maxLocals = mkF m 0 #[.val (.int x0), .val (.long x1), .second, .val (.long x2), .second, .val (.long x3), .second, .val (.long x4), .second, .unset, .unset, .unset, .unset, .unset, .unset] [] := by first | (simp [entryFrame, mkF, argsToLocals, Value.category, maxLocals]; done) | rfl
set_option maxRecDepth 65536 in
set_option maxHeartbeats 40000000 in
theorem rm_law (l : Launch) (Z : State) (a0 : Array Value) (hw : ∀ d ∈ tables_1, d.before a0 Z = true) (ws : List Jvm.Cond) (p1 : Int32) (q2 : Int64) (q3 : Int64) (q4 : Int64) (q5 : Int64) (G1 : Int32) (h0 : Heap) (n0 : Nat) (Z0 : n0 ≤ h0.size) (CS : Sta Z Z.heap "java/lang/String" "COMPACT_STRINGS" "Z" (.int G1)) (CSn : ¬ (G1 = (0 : Int32))) (O0 : Old Z n0 h0) :
    MetFree l x (head1 (Jvm.Cond.code x code maxLocals ret :: ws) room_1) (fun a U => a = #[(.int p1), (.long q2), (.long q3), (.long q4), (.long q5)] ∧ Z.Warmed39 U.vm ∧ U.heap = h0) (fun _ _ _ _ _ => True) (fun _ U o U' => ∃ v L, o = .returned v ∧ Q_law Z p1 q2 q3 q4 q5 G1 h0 n0 v U'.heap L ∧ FrameEnd U o U' L room_1.cells room_1.slots) := by
  refine MetFree.of_bodySF (plainFor_of_name pn_com_example_fielder_fielder_ForwardStatePastConflictPinLaw) hisR ?_
  intro p e s m args below meth c s₁ Bd hml0 hP hK
  obtain ⟨rfl, hZ, hh⟩ := hP
  have hx := Bd.exec
  have hby := Bd.bytes
  have hml : c.maxLocals = 15 := hml0
  have hown : s.vm.findClass "com/example/fielder/fielder/ForwardStatePastConflictPinLaw" = some m.cls := findClass_of_methodNamed Bd.named
  have hnm := (name_of_methodNamed Bd.named Bd.method).1
  have X0 : Stand p l e room_1 s m #[(.int p1), (.long q2), (.long q3), (.long q4), (.long q5)] below meth c s₁ [] 0 0 := Stand.of_body Bd
  have e0 : s₁.heap = h0 := by rw [← hh, Bd.state]; rfl
  have N0 := Fr.nil n0
  refine go_st (fun t k => castTop (ef_law m p1 q2 q3 q4 q5) k) ?_
  show Go _ _ _ _ (s₁.setTop (mkF m 0 #[iv p1, .val (.long q2), .second, .val (.long q3), .second, .val (.long q4), .second, .val (.long q5), .second, .unset, .unset, .unset, .unset, .unset, .unset] []))
  refine go_st (fun t k => XS.iconst X0.here hx rfl (hb hby at_0) k) ?_
  show Go _ _ _ _ (s₁.setTop (mkF m 1 #[iv p1, .val (.long q2), .second, .val (.long q3), .second, .val (.long q4), .second, .val (.long q5), .second, .unset, .unset, .unset, .unset, .unset, .unset] [(.int 2)]))
  obtain ⟨T1, h1, kc1, X1, e1, E1, A1, st1⟩ := newP X0 hx hZ (aty := .char) (w0 hw) e0 (g := (mkF m 1 #[iv p1, .val (.long q2), .second, .val (.long q3), .second, .val (.long q4), .second, .val (.long q5), .second, .unset, .unset, .unset, .unset, .unset, .unset] [(.int 2)])) rfl (hb hby at_1) rfl (by decide) (cap := 2) (by decide) (by decide) (by decide) (by decide)
  obtain ⟨b1, gq1⟩ : ∃ z, z = h0.size := ⟨_, rfl⟩
  rw [← gq1] at A1 st1
  have f2 : Arv Z h1 b1 kc1 .char (2 : Int32) [(.int 0), (.int 0)] (.int 0) := (Arv.new A1 (by decide)).pad (pad_rep [] (.int 0) 2)
  refine go_st (fun t k => st1 t k) ?_
  show Go _ _ _ _ (T1.setTop (mkF m 3 #[iv p1, .val (.long q2), .second, .val (.long q3), .second, .val (.long q4), .second, .val (.long q5), .second, .unset, .unset, .unset, .unset, .unset, .unset] [(.ref b1)]))
  refine go_st (fun t k => XS.dup X1.here hx rfl (hb hby at_3) rfl rfl k) ?_
  show Go _ _ _ _ (T1.setTop (mkF m 4 #[iv p1, .val (.long q2), .second, .val (.long q3), .second, .val (.long q4), .second, .val (.long q5), .second, .unset, .unset, .unset, .unset, .unset, .unset] [(.ref b1), (.ref b1)]))
  refine go_st (fun t k => XS.iconst X1.here hx rfl (hb hby at_4) k) ?_
  show Go _ _ _ _ (T1.setTop (mkF m 5 #[iv p1, .val (.long q2), .second, .val (.long q3), .second, .val (.long q4), .second, .val (.long q5), .second, .unset, .unset, .unset, .unset, .unset, .unset] [(.int 0), (.ref b1), (.ref b1)]))
  refine go_st (fun t k => XS.iloadN X1.here hx rfl (hb hby at_5) rfl k) ?_
  show Go _ _ _ _ (T1.setTop (mkF m 6 #[iv p1, .val (.long q2), .second, .val (.long q3), .second, .val (.long q4), .second, .val (.long q5), .second, .unset, .unset, .unset, .unset, .unset, .unset] [(.int p1), (.int 0), (.ref b1), (.ref b1)]))
  refine go_st (fun t k => XS.sipush X1.here hx rfl (hb hby at_6) k) ?_
  show Go _ _ _ _ (T1.setTop (mkF m 9 #[iv p1, .val (.long q2), .second, .val (.long q3), .second, .val (.long q4), .second, .val (.long q5), .second, .unset, .unset, .unset, .unset, .unset, .unset] [(.int 255), (.int p1), (.int 0), (.ref b1), (.ref b1)]))
  refine go_st (fun t k => XS.iand X1.here hx rfl (hb hby at_9) rfl k) ?_
  show Go _ _ _ _ (T1.setTop (mkF m 10 #[iv p1, .val (.long q2), .second, .val (.long q3), .second, .val (.long q4), .second, .val (.long q5), .second, .unset, .unset, .unset, .unset, .unset, .unset] [(.int (p1 &&& (255 : Int32))), (.int 0), (.ref b1), (.ref b1)]))
  refine go_st (fun t k => XS.i2c X1.here hx rfl (hb hby at_10) rfl k) ?_
  show Go _ _ _ _ (T1.setTop (mkF m 11 #[iv p1, .val (.long q2), .second, .val (.long q3), .second, .val (.long q4), .second, .val (.long q5), .second, .unset, .unset, .unset, .unset, .unset, .unset] [(.int (((p1 &&& (255 : Int32))).toUInt32.toUInt16.toUInt32.toInt32)), (.int 0), (.ref b1), (.ref b1)]))
  obtain ⟨zc3, zA3, zq3, zS3, zN3, zH3, zG3⟩ := id f2
  have hin3 : ¬ ((0 : Int32) < 0 ∨ zc3.slots.size ≤ ((0 : Int32)).toNatClampNeg) := inb_of zS3 ⟨by decide, by decide⟩
  obtain ⟨T3, h3, X3, e3, W3, st3⟩ := stC X1 hx hZ e1 zA3 (j := (0 : Int32)) hin3 (g := (mkF m 11 #[iv p1, .val (.long q2), .second, .val (.long q3), .second, .val (.long q4), .second, .val (.long q5), .second, .unset, .unset, .unset, .unset, .unset, .unset] [(.int (((p1 &&& (255 : Int32))).toUInt32.toUInt16.toUInt32.toInt32)), (.int 0), (.ref b1), (.ref b1)])) rfl rfl (hb hby at_11)
  have g_b1 : n0 ≤ b1 := Nat.le_trans (Nat.le_trans Z0 (Nat.le_refl _)) (Nat.le_of_eq gq1.symm)
  have N3 := Fr.snoc X3 N0 g_b1
  have f4 : Arv Z h3 b1 kc1 .char (2 : Int32) [(.int (nar .char (((p1 &&& (255 : Int32))).toUInt32.toUInt16.toUInt32.toInt32))), (.int 0)] (.int 0) := Arv.set zA3 zq3 zS3 zN3 zH3 zG3 (fits_nar_char _) W3 0 rfl (Nat.le_of_ble_eq_true rfl)
  refine go_st (fun t k => st3 t k) ?_
  show Go _ _ _ _ (T3.setTop (mkF m 12 #[iv p1, .val (.long q2), .second, .val (.long q3), .second, .val (.long q4), .second, .val (.long q5), .second, .unset, .unset, .unset, .unset, .unset, .unset] [(.ref b1)]))
  refine go_st (fun t k => XS.dup X3.here hx rfl (hb hby at_12) rfl rfl k) ?_
  show Go _ _ _ _ (T3.setTop (mkF m 13 #[iv p1, .val (.long q2), .second, .val (.long q3), .second, .val (.long q4), .second, .val (.long q5), .second, .unset, .unset, .unset, .unset, .unset, .unset] [(.ref b1), (.ref b1)]))
  refine go_st (fun t k => XS.iconst X3.here hx rfl (hb hby at_13) k) ?_
  show Go _ _ _ _ (T3.setTop (mkF m 14 #[iv p1, .val (.long q2), .second, .val (.long q3), .second, .val (.long q4), .second, .val (.long q5), .second, .unset, .unset, .unset, .unset, .unset, .unset] [(.int 1), (.ref b1), (.ref b1)]))
  refine go_st (fun t k => XS.iloadN X3.here hx rfl (hb hby at_14) rfl k) ?_
  show Go _ _ _ _ (T3.setTop (mkF m 15 #[iv p1, .val (.long q2), .second, .val (.long q3), .second, .val (.long q4), .second, .val (.long q5), .second, .unset, .unset, .unset, .unset, .unset, .unset] [(.int p1), (.int 1), (.ref b1), (.ref b1)]))
  refine go_st (fun t k => XS.bipush X3.here hx rfl (hb hby at_15) k) ?_
  show Go _ _ _ _ (T3.setTop (mkF m 17 #[iv p1, .val (.long q2), .second, .val (.long q3), .second, .val (.long q4), .second, .val (.long q5), .second, .unset, .unset, .unset, .unset, .unset, .unset] [(.int 8), (.int p1), (.int 1), (.ref b1), (.ref b1)]))
  refine go_st (fun t k => XS.iushr X3.here hx rfl (hb hby at_17) rfl k) ?_
  show Go _ _ _ _ (T3.setTop (mkF m 18 #[iv p1, .val (.long q2), .second, .val (.long q3), .second, .val (.long q4), .second, .val (.long q5), .second, .unset, .unset, .unset, .unset, .unset, .unset] [(.int ((p1).toUInt32 >>> ((8 : Int32) &&& 31).toUInt32).toInt32), (.int 1), (.ref b1), (.ref b1)]))
  refine go_st (fun t k => XS.sipush X3.here hx rfl (hb hby at_18) k) ?_
  show Go _ _ _ _ (T3.setTop (mkF m 21 #[iv p1, .val (.long q2), .second, .val (.long q3), .second, .val (.long q4), .second, .val (.long q5), .second, .unset, .unset, .unset, .unset, .unset, .unset] [(.int 255), (.int ((p1).toUInt32 >>> ((8 : Int32) &&& 31).toUInt32).toInt32), (.int 1), (.ref b1), (.ref b1)]))
  refine go_st (fun t k => XS.iand X3.here hx rfl (hb hby at_21) rfl k) ?_
  show Go _ _ _ _ (T3.setTop (mkF m 22 #[iv p1, .val (.long q2), .second, .val (.long q3), .second, .val (.long q4), .second, .val (.long q5), .second, .unset, .unset, .unset, .unset, .unset, .unset] [(.int (((p1).toUInt32 >>> ((8 : Int32) &&& 31).toUInt32).toInt32 &&& (255 : Int32))), (.int 1), (.ref b1), (.ref b1)]))
  refine go_st (fun t k => XS.i2c X3.here hx rfl (hb hby at_22) rfl k) ?_
  show Go _ _ _ _ (T3.setTop (mkF m 23 #[iv p1, .val (.long q2), .second, .val (.long q3), .second, .val (.long q4), .second, .val (.long q5), .second, .unset, .unset, .unset, .unset, .unset, .unset] [(.int (((((p1).toUInt32 >>> ((8 : Int32) &&& 31).toUInt32).toInt32 &&& (255 : Int32))).toUInt32.toUInt16.toUInt32.toInt32)), (.int 1), (.ref b1), (.ref b1)]))
  obtain ⟨zc5, zA5, zq5, zS5, zN5, zH5, zG5⟩ := id f4
  have hin5 : ¬ ((1 : Int32) < 0 ∨ zc5.slots.size ≤ ((1 : Int32)).toNatClampNeg) := inb_of zS5 ⟨by decide, by decide⟩
  obtain ⟨T5, h5, X5, e5, W5, st5⟩ := stC X3 hx hZ e3 zA5 (j := (1 : Int32)) hin5 (g := (mkF m 23 #[iv p1, .val (.long q2), .second, .val (.long q3), .second, .val (.long q4), .second, .val (.long q5), .second, .unset, .unset, .unset, .unset, .unset, .unset] [(.int (((((p1).toUInt32 >>> ((8 : Int32) &&& 31).toUInt32).toInt32 &&& (255 : Int32))).toUInt32.toUInt16.toUInt32.toInt32)), (.int 1), (.ref b1), (.ref b1)])) rfl rfl (hb hby at_23)
  have N5 := Fr.snoc X5 N3 g_b1
  have f6 : Arv Z h5 b1 kc1 .char (2 : Int32) [(.int (nar .char (((p1 &&& (255 : Int32))).toUInt32.toUInt16.toUInt32.toInt32))), (.int (nar .char (((((p1).toUInt32 >>> ((8 : Int32) &&& 31).toUInt32).toInt32 &&& (255 : Int32))).toUInt32.toUInt16.toUInt32.toInt32)))] (.int 0) := Arv.set zA5 zq5 zS5 zN5 zH5 zG5 (fits_nar_char _) W5 1 rfl (Nat.le_of_ble_eq_true rfl)
  refine go_st (fun t k => st5 t k) ?_
  show Go _ _ _ _ (T5.setTop (mkF m 24 #[iv p1, .val (.long q2), .second, .val (.long q3), .second, .val (.long q4), .second, .val (.long q5), .second, .unset, .unset, .unset, .unset, .unset, .unset] [(.ref b1)]))
  refine go_st (fun t k => XS.astore X5.here hx rfl (hb hby at_24) rfl rfl (l' := #[iv p1, .val (.long q2), .second, .val (.long q3), .second, .val (.long q4), .second, .val (.long q5), .second, rv b1, .unset, .unset, .unset, .unset, .unset]) rfl k) ?_
  show Go _ _ _ _ (T5.setTop (mkF m 26 #[iv p1, .val (.long q2), .second, .val (.long q3), .second, .val (.long q4), .second, .val (.long q5), .second, rv b1, .unset, .unset, .unset, .unset, .unset] []))
  refine go_st (fun t k => XS.iloadN X5.here hx rfl (hb hby at_26) rfl k) ?_
  show Go _ _ _ _ (T5.setTop (mkF m 27 #[iv p1, .val (.long q2), .second, .val (.long q3), .second, .val (.long q4), .second, .val (.long q5), .second, rv b1, .unset, .unset, .unset, .unset, .unset] [(.int p1)]))
  refine go_st (fun t k => XS.bipush X5.here hx rfl (hb hby at_27) k) ?_
  show Go _ _ _ _ (T5.setTop (mkF m 29 #[iv p1, .val (.long q2), .second, .val (.long q3), .second, .val (.long q4), .second, .val (.long q5), .second, rv b1, .unset, .unset, .unset, .unset, .unset] [(.int 16), (.int p1)]))
  refine go_st (fun t k => XS.iushr X5.here hx rfl (hb hby at_29) rfl k) ?_
  show Go _ _ _ _ (T5.setTop (mkF m 30 #[iv p1, .val (.long q2), .second, .val (.long q3), .second, .val (.long q4), .second, .val (.long q5), .second, rv b1, .unset, .unset, .unset, .unset, .unset] [(.int ((p1).toUInt32 >>> ((16 : Int32) &&& 31).toUInt32).toInt32)]))
  refine go_st (fun t k => XS.iconst X5.here hx rfl (hb hby at_30) k) ?_
  show Go _ _ _ _ (T5.setTop (mkF m 31 #[iv p1, .val (.long q2), .second, .val (.long q3), .second, .val (.long q4), .second, .val (.long q5), .second, rv b1, .unset, .unset, .unset, .unset, .unset] [(.int 1), (.int ((p1).toUInt32 >>> ((16 : Int32) &&& 31).toUInt32).toInt32)]))
  refine go_st (fun t k => XS.iand X5.here hx rfl (hb hby at_31) rfl k) ?_
  show Go _ _ _ _ (T5.setTop (mkF m 32 #[iv p1, .val (.long q2), .second, .val (.long q3), .second, .val (.long q4), .second, .val (.long q5), .second, rv b1, .unset, .unset, .unset, .unset, .unset] [(.int (((p1).toUInt32 >>> ((16 : Int32) &&& 31).toUInt32).toInt32 &&& (1 : Int32)))]))
  by_cases hc7 : (((p1).toUInt32 >>> ((16 : Int32) &&& 31).toUInt32).toInt32 &&& (1 : Int32)) = (0 : Int32)
  · skip
    refine go_st (fun t k => XS.ifYes X5.here hx rfl (pc0 := 32) (pc' := 39) rfl (hb hby at_32) rfl ((if0 _ _).trans (teq (hc7 : (((p1).toUInt32 >>> ((16 : Int32) &&& 31).toUInt32).toInt32 &&& (1 : Int32)) = (0 : Int32))).1) (by decide) (by decide) k) ?_
    show Go _ _ _ _ (T5.setTop (mkF m 39 #[iv p1, .val (.long q2), .second, .val (.long q3), .second, .val (.long q4), .second, .val (.long q5), .second, rv b1, .unset, .unset, .unset, .unset, .unset] []))
    obtain ⟨T8, h8, X8, e8, E8, A8, D8, -, st8⟩ := newO X5 hx hZ hown (w1 hw) (w2 hw) (w3 hw) e5 (g := (mkF m 39 #[iv p1, .val (.long q2), .second, .val (.long q3), .second, .val (.long q4), .second, .val (.long q5), .second, rv b1, .unset, .unset, .unset, .unset, .unset] [])) rfl (hb hby at_39) (by decide) (by decide)
    obtain ⟨b8, gq8⟩ : ∃ z, z = h5.size := ⟨_, rfl⟩
    rw [← gq8] at A8 D8 st8
    have f9 : Fld Z h8 b8 "java/lang/String" "coder" "B" (.int 0) := D8 (Or.inr (w27 hw)) (ty := .byte) (by decide)
    have f10 : Fld Z h8 b8 "java/lang/String" "value" "[B" .null := D8 (Or.inr (w29 hw)) (ty := (.array .byte)) (by decide)
    refine go_st (fun t k => st8 t k) ?_
    show Go _ _ _ _ (T8.setTop (mkF m 42 #[iv p1, .val (.long q2), .second, .val (.long q3), .second, .val (.long q4), .second, .val (.long q5), .second, rv b1, .unset, .unset, .unset, .unset, .unset] [(.ref b8)]))
    refine go_st (fun t k => XS.dup X8.here hx rfl (hb hby at_42) rfl rfl k) ?_
    show Go _ _ _ _ (T8.setTop (mkF m 43 #[iv p1, .val (.long q2), .second, .val (.long q3), .second, .val (.long q4), .second, .val (.long q5), .second, rv b1, .unset, .unset, .unset, .unset, .unset] [(.ref b8), (.ref b8)]))
    refine go_st (fun t k => XS.aload X8.here hx rfl (hb hby at_43) rfl rfl k) ?_
    show Go _ _ _ _ (T8.setTop (mkF m 45 #[iv p1, .val (.long q2), .second, .val (.long q3), .second, .val (.long q4), .second, .val (.long q5), .second, rv b1, .unset, .unset, .unset, .unset, .unset] [(.ref b1), (.ref b8), (.ref b8)]))
    have f11 : Arv Z h8 b1 kc1 .char (2 : Int32) [(.int (nar .char (((p1 &&& (255 : Int32))).toUInt32.toUInt16.toUInt32.toInt32))), (.int (nar .char (((((p1).toUInt32 >>> ((8 : Int32) &&& 31).toUInt32).toInt32 &&& (255 : Int32))).toUInt32.toUInt16.toUInt32.toInt32)))] (.int 0) := (f6.ext E8)
    have oe12 : Old Z n0 h1 := (Old.ext O0 E1)
    have oe13 : Old Z n0 h3 := (Old.wr oe12 W3 g_b1)
    have oe14 : Old Z n0 h5 := (Old.wr oe13 W5 g_b1)
    have oe15 : Old Z n0 h8 := (Old.ext oe14 E8)
    have sz16 : h0.size ≤ h3.size := (Nat.le_trans E1.1 (Nat.le_of_eq W3.size.symm))
    have sz17 : h0.size ≤ h5.size := (Nat.le_trans sz16 (Nat.le_of_eq W5.size.symm))
    have g_b8 : n0 ≤ b8 := Nat.le_trans (Nat.le_trans Z0 sz17) (Nat.le_of_eq gq8.symm)
    have sz18 : h0.size ≤ h8.size := (Nat.le_trans sz17 E8.1)
    obtain ⟨_, _, ⟨T19, L19, kk19, nn19⟩, -, X19, ⟨Lc19, hQ19, lq19, yq19, zq19⟩, st19⟩ := X8.specialBack hx (y := (⟨"java/lang/String", "<init>", "([C)V"⟩ : MethodName)) rfl hown (mvT hZ (w4 hw)) (mvT hZ (w5 hw)) (mvT hZ (w6 hw)) (by decide) (StrChars.Road.backV (W := 1) hZ (words_in str_words hw) (kI := 4) (w2 hw) (cs := ([(nar .char (((p1 &&& (255 : Int32))).toUInt32.toUInt16.toUInt32.toInt32)), (nar .char (((((p1).toUInt32 >>> ((8 : Int32) &&& 31).toUInt32).toInt32 &&& (255 : Int32))).toUInt32.toUInt16.toUInt32.toInt32))] : List Int32)) (bs := ([(nar .char (((p1 &&& (255 : Int32))).toUInt32.toUInt16.toUInt32.toInt32)), (nar .char (((((p1).toUInt32 >>> ((8 : Int32) &&& 31).toUInt32).toInt32 &&& (255 : Int32))).toUInt32.toUInt16.toUInt32.toInt32))] : List Int32).map (fun c => c.toInt8.toInt32)) (n := 2) g_b8 (Nat.le_trans Z0 sz18) A8 f10 f9 f11 (Sta.ext oe15.2 CS) CSn rfl rfl (by decide) (by decide) (chars_cons (and255_chars _) (chars_cons (and255_chars _) chars_nil)) rfl (by decide) (by decide)) (g := (mkF m 45 #[iv p1, .val (.long q2), .second, .val (.long q3), .second, .val (.long q4), .second, .val (.long q5), .second, rv b1, .unset, .unset, .unset, .unset, .unset] [(.ref b1), (.ref b8), (.ref b8)])) rfl (by rw [hml]; rfl) (Steps.refl _) (a := b8) (argsL := [(.ref b1)]) (rest := [(.ref b8)]) (lenOf pd_2 rfl) rfl (by show 2 * 0 + _ ≤ _; exact Nat.le_of_eq rfl) (hb hby at_45) (fun _ _ => ⟨rfl, e8, (by decide : 2 + 1 ≤ _), (by decide : 6 + 2 ≤ _)⟩)
    dsimp only [Pt.U, Pt.locs, Pt.cells, Pt.slots] at X19 lq19 yq19 zq19 st19 hQ19
    subst lq19 yq19 zq19
    obtain ⟨h19, e19⟩ : ∃ z, T19.heap = z := ⟨_, rfl⟩
    rw [e19] at hQ19
    obtain ⟨rfl, N19q, K19, Es19, Cs19, t19, kb19, gt19, lt19, nt19, Vs19, As19⟩ := hQ19
    have N19 := Fr.app N5 N19q
    refine go_tr st19 ?_
    show Go _ _ _ _ (T19.setTop (mkF m 48 #[iv p1, .val (.long q2), .second, .val (.long q3), .second, .val (.long q4), .second, .val (.long q5), .second, rv b1, .unset, .unset, .unset, .unset, .unset] [(.ref b8)]))
    refine go_st (fun t k => XS.astore X19.here hx rfl (hb hby at_48) rfl rfl (l' := #[iv p1, .val (.long q2), .second, .val (.long q3), .second, .val (.long q4), .second, .val (.long q5), .second, rv b1, rv b8, .unset, .unset, .unset, .unset]) rfl k) ?_
    show Go _ _ _ _ (T19.setTop (mkF m 50 #[iv p1, .val (.long q2), .second, .val (.long q3), .second, .val (.long q4), .second, .val (.long q5), .second, rv b1, rv b8, .unset, .unset, .unset, .unset] []))
    obtain ⟨T20, h20, X20, e20, E20, A20, D20, -, st20⟩ := newO X19 hx hZ hown (w30 hw) (w31 hw) (w32 hw) e19 (g := (mkF m 50 #[iv p1, .val (.long q2), .second, .val (.long q3), .second, .val (.long q4), .second, .val (.long q5), .second, rv b1, rv b8, .unset, .unset, .unset, .unset] [])) rfl (hb hby at_50) (by decide) (by decide)
    obtain ⟨b20, gq20⟩ : ∃ z, z = h19.size := ⟨_, rfl⟩
    rw [← gq20] at A20 D20 st20
    have f21 : Fld Z h20 b20 "com/example/fielder/fielder/ForwardState" "messagePrefix" "Ljava/lang/String;" .null := D20 (Or.inr (w43 hw)) (ty := (.object "java/lang/String")) (by decide)
    have f22 : Fld Z h20 b20 "com/example/fielder/fielder/ForwardState" "refund" "J" (.long 0) := D20 (Or.inr (w45 hw)) (ty := .long) (by decide)
    have f23 : Fld Z h20 b20 "com/example/fielder/fielder/ForwardState" "conflict" "J" (.long 0) := D20 (Or.inr (w47 hw)) (ty := .long) (by decide)
    have f24 : Fld Z h20 b20 "com/example/fielder/fielder/ForwardState" "received" "J" (.long 0) := D20 (Or.inr (w49 hw)) (ty := .long) (by decide)
    refine go_st (fun t k => st20 t k) ?_
    show Go _ _ _ _ (T20.setTop (mkF m 53 #[iv p1, .val (.long q2), .second, .val (.long q3), .second, .val (.long q4), .second, .val (.long q5), .second, rv b1, rv b8, .unset, .unset, .unset, .unset] [(.ref b20)]))
    refine go_st (fun t k => XS.dup X20.here hx rfl (hb hby at_53) rfl rfl k) ?_
    show Go _ _ _ _ (T20.setTop (mkF m 54 #[iv p1, .val (.long q2), .second, .val (.long q3), .second, .val (.long q4), .second, .val (.long q5), .second, rv b1, rv b8, .unset, .unset, .unset, .unset] [(.ref b20), (.ref b20)]))
    refine go_st (fun t k => XS.aload X20.here hx rfl (hb hby at_54) rfl rfl k) ?_
    show Go _ _ _ _ (T20.setTop (mkF m 56 #[iv p1, .val (.long q2), .second, .val (.long q3), .second, .val (.long q4), .second, .val (.long q5), .second, rv b1, rv b8, .unset, .unset, .unset, .unset] [(.ref b8), (.ref b20), (.ref b20)]))
    refine go_st (fun t k => XS.lloadN X20.here hx rfl (hb hby at_56) rfl k) ?_
    show Go _ _ _ _ (T20.setTop (mkF m 57 #[iv p1, .val (.long q2), .second, .val (.long q3), .second, .val (.long q4), .second, .val (.long q5), .second, rv b1, rv b8, .unset, .unset, .unset, .unset] [(.long q2), (.ref b8), (.ref b20), (.ref b20)]))
    refine go_st (fun t k => XS.lloadN X20.here hx rfl (hb hby at_57) rfl k) ?_
    show Go _ _ _ _ (T20.setTop (mkF m 58 #[iv p1, .val (.long q2), .second, .val (.long q3), .second, .val (.long q4), .second, .val (.long q5), .second, rv b1, rv b8, .unset, .unset, .unset, .unset] [(.long q3), (.long q2), (.ref b8), (.ref b20), (.ref b20)]))
    refine go_st (fun t k => XS.lload X20.here hx rfl (hb hby at_58) rfl k) ?_
    show Go _ _ _ _ (T20.setTop (mkF m 60 #[iv p1, .val (.long q2), .second, .val (.long q3), .second, .val (.long q4), .second, .val (.long q5), .second, rv b1, rv b8, .unset, .unset, .unset, .unset] [(.long q4), (.long q3), (.long q2), (.ref b8), (.ref b20), (.ref b20)]))
    have sz25 : h0.size ≤ h19.size := (Nat.le_trans sz18 K19.1)
    have g_b20 : n0 ≤ b20 := Nat.le_trans (Nat.le_trans Z0 sz25) (Nat.le_of_eq gq20.symm)
    have sz26 : h0.size ≤ h20.size := (Nat.le_trans sz25 E20.1)
    obtain ⟨_, _, ⟨T27, L27, kk27, nn27⟩, -, X27, ⟨Lc27, hQ27, lq27, yq27, zq27⟩, st27⟩ := X20.specialBack hx (y := (⟨"com/example/fielder/fielder/ForwardState", "<init>", "(Ljava/lang/String;JJJ)V"⟩ : MethodName)) rfl hown (mvT hZ (w33 hw)) (mvT hZ (w34 hw)) (mvT hZ (w35 hw)) (by decide) (backOf (W := 1) (rm_ctor l Z a0 hw [] b20 (.ref b8) q2 q3 q4 h20 n0 (Nat.le_trans Z0 sz26) A20 f21 f22 f23 f24 g_b20 rfl) hZ (w35 hw) (w32 hw) (by decide) (by decide)) (g := (mkF m 60 #[iv p1, .val (.long q2), .second, .val (.long q3), .second, .val (.long q4), .second, .val (.long q5), .second, rv b1, rv b8, .unset, .unset, .unset, .unset] [(.long q4), (.long q3), (.long q2), (.ref b8), (.ref b20), (.ref b20)])) rfl (by rw [hml]; rfl) (Steps.refl _) (a := b20) (argsL := [(.ref b8), (.long q2), (.long q3), (.long q4)]) (rest := [(.ref b20)]) (lenOf pd_1 rfl) rfl (by show 2 * 0 + _ ≤ _; exact Nat.le_of_eq rfl) (hb hby at_60) (fun _ _ => ⟨rfl, e20, (by decide : 4 + 0 ≤ _), (by decide : 12 + 0 ≤ _)⟩)
    dsimp only [Pt.U, Pt.locs, Pt.cells, Pt.slots] at X27 lq27 yq27 zq27 st27 hQ27
    subst lq27 yq27 zq27
    obtain ⟨h27, e27⟩ : ∃ z, T27.heap = z := ⟨_, rfl⟩
    rw [e27] at hQ27
    obtain ⟨rfl, N27q, K27, p27_0, p27_1, p27_2, p27_3, p27_4⟩ := hQ27
    have N27 := Fr.app N19 N27q
    refine go_tr st27 ?_
    show Go _ _ _ _ (T27.setTop (mkF m 63 #[iv p1, .val (.long q2), .second, .val (.long q3), .second, .val (.long q4), .second, .val (.long q5), .second, rv b1, rv b8, .unset, .unset, .unset, .unset] [(.ref b20)]))
    refine go_st (fun t k => XS.astore X27.here hx rfl (hb hby at_63) rfl rfl (l' := #[iv p1, .val (.long q2), .second, .val (.long q3), .second, .val (.long q4), .second, .val (.long q5), .second, rv b1, rv b8, rv b20, .unset, .unset, .unset]) rfl k) ?_
    show Go _ _ _ _ (T27.setTop (mkF m 65 #[iv p1, .val (.long q2), .second, .val (.long q3), .second, .val (.long q4), .second, .val (.long q5), .second, rv b1, rv b8, rv b20, .unset, .unset, .unset] []))
    refine go_st (fun t k => XS.aload X27.here hx rfl (hb hby at_65) rfl rfl k) ?_
    show Go _ _ _ _ (T27.setTop (mkF m 67 #[iv p1, .val (.long q2), .second, .val (.long q3), .second, .val (.long q4), .second, .val (.long q5), .second, rv b1, rv b8, rv b20, .unset, .unset, .unset] [(.ref b20)]))
    refine go_st (fun t k => XS.lload X27.here hx rfl (hb hby at_67) rfl k) ?_
    show Go _ _ _ _ (T27.setTop (mkF m 69 #[iv p1, .val (.long q2), .second, .val (.long q3), .second, .val (.long q4), .second, .val (.long q5), .second, rv b1, rv b8, rv b20, .unset, .unset, .unset] [(.long q5), (.ref b20)]))
    have sz28 : h0.size ≤ h27.size := (Nat.le_trans sz26 K27.1)
    obtain ⟨cq29, kq29, q29a, q29b, q29c⟩ := isOf hZ e27 p27_0
    obtain ⟨_, _, ⟨T29, L29, kk29, nn29⟩, -, X29, ⟨Lc29, hQ29, lq29, yq29, zq29⟩, st29⟩ := X27.virtualBack hx (y := (⟨"com/example/fielder/fielder/ForwardState", "pastConflict", "(J)Lcom/example/fielder/fielder/ForwardState;"⟩ : MethodName)) (z := (⟨"com/example/fielder/fielder/ForwardState", "pastConflict", "(J)Lcom/example/fielder/fielder/ForwardState;"⟩ : MethodName)) hown (mvT hZ (w50 hw)) (mvT hZ (w51 hw)) (notFace_of_selects (args := #[]) (mvT hZ (w53 hw))) (mvT hZ (w53 hw)) (mvT hZ (w52 hw)) (by decide) (backOf (W := 0) (rm_past l Z a0 hw [] b20 q5 (.ref b8) q2 q3 q4 h27 n0 (Nat.le_trans Z0 sz28) p27_1 p27_2 p27_3 p27_4 rfl) hZ (w54 hw) (w32 hw) (by decide) (by decide)) q29a q29c (g := (mkF m 69 #[iv p1, .val (.long q2), .second, .val (.long q3), .second, .val (.long q4), .second, .val (.long q5), .second, rv b1, rv b8, rv b20, .unset, .unset, .unset] [(.long q5), (.ref b20)])) rfl (by rw [hml]; rfl) (Steps.refl _) (argsL := [(.long q5)]) (rest := []) (lenOf pd_3 rfl) rfl (by show 2 * 0 + _ ≤ _; exact Nat.le_of_eq rfl) (hb hby at_69) (fun _ _ => ⟨rfl, e27, (by decide : 4 + 1 ≤ _), (by decide : 12 + 4 ≤ _)⟩)
    dsimp only [Pt.U, Pt.locs, Pt.cells, Pt.slots] at X29 lq29 yq29 zq29 st29 hQ29
    subst lq29 yq29 zq29
    obtain ⟨h29, e29⟩ : ∃ z, T29.heap = z := ⟨_, rfl⟩
    rw [e29] at hQ29
    obtain ⟨b_29, rfl, N29q, K29, gf29_0, lf29_0, p29_1, p29_2, p29_3, p29_4, p29_5⟩ := hQ29
    have N29 := Fr.app N27 N29q
    refine go_tr st29 ?_
    show Go _ _ _ _ (T29.setTop (mkF m 72 #[iv p1, .val (.long q2), .second, .val (.long q3), .second, .val (.long q4), .second, .val (.long q5), .second, rv b1, rv b8, rv b20, .unset, .unset, .unset] [(.ref b_29)]))
    refine go_st (fun t k => XS.astore X29.here hx rfl (hb hby at_72) rfl rfl (l' := #[iv p1, .val (.long q2), .second, .val (.long q3), .second, .val (.long q4), .second, .val (.long q5), .second, rv b1, rv b8, rv b20, rv b_29, .unset, .unset]) rfl k) ?_
    show Go _ _ _ _ (T29.setTop (mkF m 74 #[iv p1, .val (.long q2), .second, .val (.long q3), .second, .val (.long q4), .second, .val (.long q5), .second, rv b1, rv b8, rv b20, rv b_29, .unset, .unset] []))
    refine go_st (fun t k => XS.aload X29.here hx rfl (hb hby at_74) rfl rfl k) ?_
    show Go _ _ _ _ (T29.setTop (mkF m 76 #[iv p1, .val (.long q2), .second, .val (.long q3), .second, .val (.long q4), .second, .val (.long q5), .second, rv b1, rv b8, rv b20, rv b_29, .unset, .unset] [(.ref b_29)]))
    have sz30 : h0.size ≤ h29.size := (Nat.le_trans sz28 K29.1)
    obtain ⟨cq31, kq31, q31a, q31b, q31c⟩ := isOf hZ e29 p29_1
    obtain ⟨_, _, ⟨T31, L31, kk31, nn31⟩, -, X31, ⟨Lc31, hQ31, lq31, yq31, zq31⟩, st31⟩ := X29.virtualBack hx (y := (⟨"com/example/fielder/fielder/ForwardState", "messagePrefix", "()Ljava/lang/String;"⟩ : MethodName)) (z := (⟨"com/example/fielder/fielder/ForwardState", "messagePrefix", "()Ljava/lang/String;"⟩ : MethodName)) hown (mvT hZ (w57 hw)) (mvT hZ (w58 hw)) (notFace_of_selects (args := #[]) (mvT hZ (w60 hw))) (mvT hZ (w60 hw)) (mvT hZ (w59 hw)) (by decide) (backOf (W := 0) (rm_gp l Z a0 hw [] b_29 (.ref b8) h29 n0 (Nat.le_trans Z0 sz30) p29_2 rfl) hZ (w61 hw) (w32 hw) (by decide) (by decide)) q31a q31c (g := (mkF m 76 #[iv p1, .val (.long q2), .second, .val (.long q3), .second, .val (.long q4), .second, .val (.long q5), .second, rv b1, rv b8, rv b20, rv b_29, .unset, .unset] [(.ref b_29)])) rfl (by rw [hml]; rfl) (Steps.refl _) (argsL := []) (rest := []) (lenOf pd_4 rfl) rfl (by show 2 * 0 + _ ≤ _; exact Nat.le_of_eq rfl) (hb hby at_76) (fun _ _ => ⟨rfl, e29, (by decide : 5 + 0 ≤ _), (by decide : 16 + 0 ≤ _)⟩)
    dsimp only [Pt.U, Pt.locs, Pt.cells, Pt.slots] at X31 lq31 yq31 zq31 st31 hQ31
    subst lq31 yq31 zq31
    obtain ⟨h31, e31⟩ : ∃ z, T31.heap = z := ⟨_, rfl⟩
    rw [e31] at hQ31
    obtain ⟨rfl, N31q, he31⟩ := hQ31
    have N31 := Fr.app N29 N31q
    rw [he31] at e31
    refine go_tr st31 ?_
    show Go _ _ _ _ (T31.setTop (mkF m 79 #[iv p1, .val (.long q2), .second, .val (.long q3), .second, .val (.long q4), .second, .val (.long q5), .second, rv b1, rv b8, rv b20, rv b_29, .unset, .unset] [(.ref b8)]))
    refine go_st (fun t k => XS.aload X31.here hx rfl (hb hby at_79) rfl rfl k) ?_
    show Go _ _ _ _ (T31.setTop (mkF m 81 #[iv p1, .val (.long q2), .second, .val (.long q3), .second, .val (.long q4), .second, .val (.long q5), .second, rv b1, rv b8, rv b20, rv b_29, .unset, .unset] [(.ref b8), (.ref b8)]))
    refine go_st (fun t k => Jvm.RoadKit.acmp (g := (mkF m 81 #[iv p1, .val (.long q2), .second, .val (.long q3), .second, .val (.long q4), .second, .val (.long q5), .second, rv b1, rv b8, rv b20, rv b_29, .unset, .unset] [(.ref b8), (.ref b8)])) X31 hx rfl rfl rfl (pc0 := 81) (pc' := 84) (same := true) rfl (hb hby at_81) rfl (decide_eq_true rfl) (by decide) (by decide) k) ?_
    show Go _ _ _ _ (T31.setTop (mkF m 84 #[iv p1, .val (.long q2), .second, .val (.long q3), .second, .val (.long q4), .second, .val (.long q5), .second, rv b1, rv b8, rv b20, rv b_29, .unset, .unset] []))
    refine go_st (fun t k => XS.aload X31.here hx rfl (hb hby at_84) rfl rfl k) ?_
    show Go _ _ _ _ (T31.setTop (mkF m 86 #[iv p1, .val (.long q2), .second, .val (.long q3), .second, .val (.long q4), .second, .val (.long q5), .second, rv b1, rv b8, rv b20, rv b_29, .unset, .unset] [(.ref b_29)]))
    obtain ⟨cq32, kq32, q32a, q32b, q32c⟩ := isOf hZ e31 p29_1
    obtain ⟨_, _, ⟨T32, L32, kk32, nn32⟩, -, X32, ⟨Lc32, hQ32, lq32, yq32, zq32⟩, st32⟩ := X31.virtualBack hx (y := (⟨"com/example/fielder/fielder/ForwardState", "refund", "()J"⟩ : MethodName)) (z := (⟨"com/example/fielder/fielder/ForwardState", "refund", "()J"⟩ : MethodName)) hown (mvT hZ (w62 hw)) (mvT hZ (w63 hw)) (notFace_of_selects (args := #[]) (mvT hZ (w65 hw))) (mvT hZ (w65 hw)) (mvT hZ (w64 hw)) (by decide) (backOf (W := 0) (rm_g_refund l Z a0 hw [] b_29 q2 h29 n0 (Nat.le_trans Z0 sz30) p29_3) hZ (w66 hw) (w32 hw) (by decide) (by decide)) q32a q32c (g := (mkF m 86 #[iv p1, .val (.long q2), .second, .val (.long q3), .second, .val (.long q4), .second, .val (.long q5), .second, rv b1, rv b8, rv b20, rv b_29, .unset, .unset] [(.ref b_29)])) rfl (by rw [hml]; rfl) (Steps.refl _) (argsL := []) (rest := []) (lenOf pd_5 rfl) rfl (by show 2 * 0 + _ ≤ _; exact Nat.le_of_eq rfl) (hb hby at_86) (fun _ _ => ⟨rfl, e31, (by decide : 5 + 0 ≤ _), (by decide : 16 + 0 ≤ _)⟩)
    dsimp only [Pt.U, Pt.locs, Pt.cells, Pt.slots] at X32 lq32 yq32 zq32 st32 hQ32
    subst lq32 yq32 zq32
    obtain ⟨h32, e32⟩ : ∃ z, T32.heap = z := ⟨_, rfl⟩
    rw [e32] at hQ32
    obtain ⟨rfl, N32q, he32⟩ := hQ32
    have N32 := Fr.app N31 N32q
    rw [he32] at e32
    refine go_tr st32 ?_
    show Go _ _ _ _ (T32.setTop (mkF m 89 #[iv p1, .val (.long q2), .second, .val (.long q3), .second, .val (.long q4), .second, .val (.long q5), .second, rv b1, rv b8, rv b20, rv b_29, .unset, .unset] [(.long q2)]))
    refine go_st (fun t k => XS.lloadN X32.here hx rfl (hb hby at_89) rfl k) ?_
    show Go _ _ _ _ (T32.setTop (mkF m 90 #[iv p1, .val (.long q2), .second, .val (.long q3), .second, .val (.long q4), .second, .val (.long q5), .second, rv b1, rv b8, rv b20, rv b_29, .unset, .unset] [(.long q2), (.long q2)]))
    refine go_st (fun t k => XS.lcmp X32.here hx rfl (hb hby at_90) rfl k) ?_
    show Go _ _ _ _ (T32.setTop (mkF m 91 #[iv p1, .val (.long q2), .second, .val (.long q3), .second, .val (.long q4), .second, .val (.long q5), .second, rv b1, rv b8, rv b20, rv b_29, .unset, .unset] [(.int (lcmpW q2 q2))]))
    refine go_st (fun t k => XS.ifNo X32.here hx rfl (hb hby at_91) rfl ((if0 _ _).trans (teq (((lcW _ _).trans ((lc_eq _ _).mpr rfl)) : (lcmpW q2 q2) = (0 : Int32))).2) k) ?_
    show Go _ _ _ _ (T32.setTop (mkF m 94 #[iv p1, .val (.long q2), .second, .val (.long q3), .second, .val (.long q4), .second, .val (.long q5), .second, rv b1, rv b8, rv b20, rv b_29, .unset, .unset] []))
    refine go_st (fun t k => XS.aload X32.here hx rfl (hb hby at_94) rfl rfl k) ?_
    show Go _ _ _ _ (T32.setTop (mkF m 96 #[iv p1, .val (.long q2), .second, .val (.long q3), .second, .val (.long q4), .second, .val (.long q5), .second, rv b1, rv b8, rv b20, rv b_29, .unset, .unset] [(.ref b_29)]))
    obtain ⟨cq33, kq33, q33a, q33b, q33c⟩ := isOf hZ e32 p29_1
    obtain ⟨_, _, ⟨T33, L33, kk33, nn33⟩, -, X33, ⟨Lc33, hQ33, lq33, yq33, zq33⟩, st33⟩ := X32.virtualBack hx (y := (⟨"com/example/fielder/fielder/ForwardState", "conflict", "()J"⟩ : MethodName)) (z := (⟨"com/example/fielder/fielder/ForwardState", "conflict", "()J"⟩ : MethodName)) hown (mvT hZ (w67 hw)) (mvT hZ (w68 hw)) (notFace_of_selects (args := #[]) (mvT hZ (w70 hw))) (mvT hZ (w70 hw)) (mvT hZ (w69 hw)) (by decide) (backOf (W := 0) (rm_g_conflict l Z a0 hw [] b_29 q5 h29 n0 (Nat.le_trans Z0 sz30) p29_4) hZ (w71 hw) (w32 hw) (by decide) (by decide)) q33a q33c (g := (mkF m 96 #[iv p1, .val (.long q2), .second, .val (.long q3), .second, .val (.long q4), .second, .val (.long q5), .second, rv b1, rv b8, rv b20, rv b_29, .unset, .unset] [(.ref b_29)])) rfl (by rw [hml]; rfl) (Steps.refl _) (argsL := []) (rest := []) (lenOf pd_5 rfl) rfl (by show 2 * 0 + _ ≤ _; exact Nat.le_of_eq rfl) (hb hby at_96) (fun _ _ => ⟨rfl, e32, (by decide : 5 + 0 ≤ _), (by decide : 16 + 0 ≤ _)⟩)
    dsimp only [Pt.U, Pt.locs, Pt.cells, Pt.slots] at X33 lq33 yq33 zq33 st33 hQ33
    subst lq33 yq33 zq33
    obtain ⟨h33, e33⟩ : ∃ z, T33.heap = z := ⟨_, rfl⟩
    rw [e33] at hQ33
    obtain ⟨rfl, N33q, he33⟩ := hQ33
    have N33 := Fr.app N32 N33q
    rw [he33] at e33
    refine go_tr st33 ?_
    show Go _ _ _ _ (T33.setTop (mkF m 99 #[iv p1, .val (.long q2), .second, .val (.long q3), .second, .val (.long q4), .second, .val (.long q5), .second, rv b1, rv b8, rv b20, rv b_29, .unset, .unset] [(.long q5)]))
    refine go_st (fun t k => XS.lload X33.here hx rfl (hb hby at_99) rfl k) ?_
    show Go _ _ _ _ (T33.setTop (mkF m 101 #[iv p1, .val (.long q2), .second, .val (.long q3), .second, .val (.long q4), .second, .val (.long q5), .second, rv b1, rv b8, rv b20, rv b_29, .unset, .unset] [(.long q5), (.long q5)]))
    refine go_st (fun t k => XS.lcmp X33.here hx rfl (hb hby at_101) rfl k) ?_
    show Go _ _ _ _ (T33.setTop (mkF m 102 #[iv p1, .val (.long q2), .second, .val (.long q3), .second, .val (.long q4), .second, .val (.long q5), .second, rv b1, rv b8, rv b20, rv b_29, .unset, .unset] [(.int (lcmpW q5 q5))]))
    refine go_st (fun t k => XS.ifNo X33.here hx rfl (hb hby at_102) rfl ((if0 _ _).trans (teq (((lcW _ _).trans ((lc_eq _ _).mpr rfl)) : (lcmpW q5 q5) = (0 : Int32))).2) k) ?_
    show Go _ _ _ _ (T33.setTop (mkF m 105 #[iv p1, .val (.long q2), .second, .val (.long q3), .second, .val (.long q4), .second, .val (.long q5), .second, rv b1, rv b8, rv b20, rv b_29, .unset, .unset] []))
    refine go_st (fun t k => XS.aload X33.here hx rfl (hb hby at_105) rfl rfl k) ?_
    show Go _ _ _ _ (T33.setTop (mkF m 107 #[iv p1, .val (.long q2), .second, .val (.long q3), .second, .val (.long q4), .second, .val (.long q5), .second, rv b1, rv b8, rv b20, rv b_29, .unset, .unset] [(.ref b_29)]))
    obtain ⟨cq34, kq34, q34a, q34b, q34c⟩ := isOf hZ e33 p29_1
    obtain ⟨_, _, ⟨T34, L34, kk34, nn34⟩, -, X34, ⟨Lc34, hQ34, lq34, yq34, zq34⟩, st34⟩ := X33.virtualBack hx (y := (⟨"com/example/fielder/fielder/ForwardState", "received", "()J"⟩ : MethodName)) (z := (⟨"com/example/fielder/fielder/ForwardState", "received", "()J"⟩ : MethodName)) hown (mvT hZ (w72 hw)) (mvT hZ (w73 hw)) (notFace_of_selects (args := #[]) (mvT hZ (w75 hw))) (mvT hZ (w75 hw)) (mvT hZ (w74 hw)) (by decide) (backOf (W := 0) (rm_g_received l Z a0 hw [] b_29 (q4 + (1 : Int64)) h29 n0 (Nat.le_trans Z0 sz30) p29_5) hZ (w76 hw) (w32 hw) (by decide) (by decide)) q34a q34c (g := (mkF m 107 #[iv p1, .val (.long q2), .second, .val (.long q3), .second, .val (.long q4), .second, .val (.long q5), .second, rv b1, rv b8, rv b20, rv b_29, .unset, .unset] [(.ref b_29)])) rfl (by rw [hml]; rfl) (Steps.refl _) (argsL := []) (rest := []) (lenOf pd_5 rfl) rfl (by show 2 * 0 + _ ≤ _; exact Nat.le_of_eq rfl) (hb hby at_107) (fun _ _ => ⟨rfl, e33, (by decide : 5 + 0 ≤ _), (by decide : 16 + 0 ≤ _)⟩)
    dsimp only [Pt.U, Pt.locs, Pt.cells, Pt.slots] at X34 lq34 yq34 zq34 st34 hQ34
    subst lq34 yq34 zq34
    obtain ⟨h34, e34⟩ : ∃ z, T34.heap = z := ⟨_, rfl⟩
    rw [e34] at hQ34
    obtain ⟨rfl, N34q, he34⟩ := hQ34
    have N34 := Fr.app N33 N34q
    rw [he34] at e34
    refine go_tr st34 ?_
    show Go _ _ _ _ (T34.setTop (mkF m 110 #[iv p1, .val (.long q2), .second, .val (.long q3), .second, .val (.long q4), .second, .val (.long q5), .second, rv b1, rv b8, rv b20, rv b_29, .unset, .unset] [(.long (q4 + (1 : Int64)))]))
    refine go_st (fun t k => XS.lload X34.here hx rfl (hb hby at_110) rfl k) ?_
    show Go _ _ _ _ (T34.setTop (mkF m 112 #[iv p1, .val (.long q2), .second, .val (.long q3), .second, .val (.long q4), .second, .val (.long q5), .second, rv b1, rv b8, rv b20, rv b_29, .unset, .unset] [(.long q4), (.long (q4 + (1 : Int64)))]))
    refine go_st (fun t k => XS.lconst X34.here hx rfl (hb hby at_112) k) ?_
    show Go _ _ _ _ (T34.setTop (mkF m 113 #[iv p1, .val (.long q2), .second, .val (.long q3), .second, .val (.long q4), .second, .val (.long q5), .second, rv b1, rv b8, rv b20, rv b_29, .unset, .unset] [(.long 1), (.long q4), (.long (q4 + (1 : Int64)))]))
    refine go_st (fun t k => XS.ladd X34.here hx rfl (hb hby at_113) rfl k) ?_
    show Go _ _ _ _ (T34.setTop (mkF m 114 #[iv p1, .val (.long q2), .second, .val (.long q3), .second, .val (.long q4), .second, .val (.long q5), .second, rv b1, rv b8, rv b20, rv b_29, .unset, .unset] [(.long (q4 + (1 : Int64))), (.long (q4 + (1 : Int64)))]))
    refine go_st (fun t k => XS.lcmp X34.here hx rfl (hb hby at_114) rfl k) ?_
    show Go _ _ _ _ (T34.setTop (mkF m 115 #[iv p1, .val (.long q2), .second, .val (.long q3), .second, .val (.long q4), .second, .val (.long q5), .second, rv b1, rv b8, rv b20, rv b_29, .unset, .unset] [(.int (lcmpW (q4 + (1 : Int64)) (q4 + (1 : Int64))))]))
    refine go_st (fun t k => XS.ifNo X34.here hx rfl (hb hby at_115) rfl ((if0 _ _).trans (teq (((lcW _ _).trans ((lc_eq _ _).mpr rfl)) : (lcmpW (q4 + (1 : Int64)) (q4 + (1 : Int64))) = (0 : Int32))).2) k) ?_
    show Go _ _ _ _ (T34.setTop (mkF m 118 #[iv p1, .val (.long q2), .second, .val (.long q3), .second, .val (.long q4), .second, .val (.long q5), .second, rv b1, rv b8, rv b20, rv b_29, .unset, .unset] []))
    refine go_st (fun t k => XS.iconst X34.here hx rfl (hb hby at_118) k) ?_
    show Go _ _ _ _ (T34.setTop (mkF m 119 #[iv p1, .val (.long q2), .second, .val (.long q3), .second, .val (.long q4), .second, .val (.long q5), .second, rv b1, rv b8, rv b20, rv b_29, .unset, .unset] [(.int 1)]))
    refine go_st (fun t k => XS.goto X34.here hx rfl (pc0 := 119) (pc' := 123) rfl (hb hby at_119) (by decide) (by decide) k) ?_
    show Go _ _ _ _ (T34.setTop (mkF m 123 #[iv p1, .val (.long q2), .second, .val (.long q3), .second, .val (.long q4), .second, .val (.long q5), .second, rv b1, rv b8, rv b20, rv b_29, .unset, .unset] [(.int 1)]))
    refine go_st (fun t k => XS.istore X34.here hx rfl (hb hby at_123) rfl (l' := #[iv p1, .val (.long q2), .second, .val (.long q3), .second, .val (.long q4), .second, .val (.long q5), .second, rv b1, rv b8, rv b20, rv b_29, iv 1, .unset]) rfl k) ?_
    show Go _ _ _ _ (T34.setTop (mkF m 125 #[iv p1, .val (.long q2), .second, .val (.long q3), .second, .val (.long q4), .second, .val (.long q5), .second, rv b1, rv b8, rv b20, rv b_29, iv 1, .unset] []))
    refine go_st (fun t k => XS.aload X34.here hx rfl (hb hby at_125) rfl rfl k) ?_
    show Go _ _ _ _ (T34.setTop (mkF m 127 #[iv p1, .val (.long q2), .second, .val (.long q3), .second, .val (.long q4), .second, .val (.long q5), .second, rv b1, rv b8, rv b20, rv b_29, iv 1, .unset] [(.ref b20)]))
    have f35 : Fld Z h29 b20 "com/example/fielder/fielder/ForwardState" "messagePrefix" "Ljava/lang/String;" (.ref b8) := (p27_1.keep K29 nin0)
    have f37 : Exa Z h29 b20 "com/example/fielder/fielder/ForwardState" := (p27_0.keep K29)
    obtain ⟨cq36, kq36, q36a, q36b, q36c⟩ := isOf hZ e34 f37
    obtain ⟨_, _, ⟨T36, L36, kk36, nn36⟩, -, X36, ⟨Lc36, hQ36, lq36, yq36, zq36⟩, st36⟩ := X34.virtualBack hx (y := (⟨"com/example/fielder/fielder/ForwardState", "messagePrefix", "()Ljava/lang/String;"⟩ : MethodName)) (z := (⟨"com/example/fielder/fielder/ForwardState", "messagePrefix", "()Ljava/lang/String;"⟩ : MethodName)) hown (mvT hZ (w57 hw)) (mvT hZ (w58 hw)) (notFace_of_selects (args := #[]) (mvT hZ (w60 hw))) (mvT hZ (w60 hw)) (mvT hZ (w59 hw)) (by decide) (backOf (W := 0) (rm_gp l Z a0 hw [] b20 (.ref b8) h29 n0 (Nat.le_trans Z0 sz30) f35 rfl) hZ (w61 hw) (w32 hw) (by decide) (by decide)) q36a q36c (g := (mkF m 127 #[iv p1, .val (.long q2), .second, .val (.long q3), .second, .val (.long q4), .second, .val (.long q5), .second, rv b1, rv b8, rv b20, rv b_29, iv 1, .unset] [(.ref b20)])) rfl (by rw [hml]; rfl) (Steps.refl _) (argsL := []) (rest := []) (lenOf pd_4 rfl) rfl (by show 2 * 0 + _ ≤ _; exact Nat.le_of_eq rfl) (hb hby at_127) (fun _ _ => ⟨rfl, e34, (by decide : 5 + 0 ≤ _), (by decide : 16 + 0 ≤ _)⟩)
    dsimp only [Pt.U, Pt.locs, Pt.cells, Pt.slots] at X36 lq36 yq36 zq36 st36 hQ36
    subst lq36 yq36 zq36
    obtain ⟨h36, e36⟩ : ∃ z, T36.heap = z := ⟨_, rfl⟩
    rw [e36] at hQ36
    obtain ⟨rfl, N36q, he36⟩ := hQ36
    have N36 := Fr.app N34 N36q
    rw [he36] at e36
    refine go_tr st36 ?_
    show Go _ _ _ _ (T36.setTop (mkF m 130 #[iv p1, .val (.long q2), .second, .val (.long q3), .second, .val (.long q4), .second, .val (.long q5), .second, rv b1, rv b8, rv b20, rv b_29, iv 1, .unset] [(.ref b8)]))
    refine go_st (fun t k => XS.aload X36.here hx rfl (hb hby at_130) rfl rfl k) ?_
    show Go _ _ _ _ (T36.setTop (mkF m 132 #[iv p1, .val (.long q2), .second, .val (.long q3), .second, .val (.long q4), .second, .val (.long q5), .second, rv b1, rv b8, rv b20, rv b_29, iv 1, .unset] [(.ref b8), (.ref b8)]))
    refine go_st (fun t k => Jvm.RoadKit.acmp (g := (mkF m 132 #[iv p1, .val (.long q2), .second, .val (.long q3), .second, .val (.long q4), .second, .val (.long q5), .second, rv b1, rv b8, rv b20, rv b_29, iv 1, .unset] [(.ref b8), (.ref b8)])) X36 hx rfl rfl rfl (pc0 := 132) (pc' := 135) (same := true) rfl (hb hby at_132) rfl (decide_eq_true rfl) (by decide) (by decide) k) ?_
    show Go _ _ _ _ (T36.setTop (mkF m 135 #[iv p1, .val (.long q2), .second, .val (.long q3), .second, .val (.long q4), .second, .val (.long q5), .second, rv b1, rv b8, rv b20, rv b_29, iv 1, .unset] []))
    refine go_st (fun t k => XS.aload X36.here hx rfl (hb hby at_135) rfl rfl k) ?_
    show Go _ _ _ _ (T36.setTop (mkF m 137 #[iv p1, .val (.long q2), .second, .val (.long q3), .second, .val (.long q4), .second, .val (.long q5), .second, rv b1, rv b8, rv b20, rv b_29, iv 1, .unset] [(.ref b20)]))
    have f38 : Fld Z h29 b20 "com/example/fielder/fielder/ForwardState" "refund" "J" (.long q2) := (p27_2.keep K29 nin0)
    obtain ⟨cq39, kq39, q39a, q39b, q39c⟩ := isOf hZ e36 f37
    obtain ⟨_, _, ⟨T39, L39, kk39, nn39⟩, -, X39, ⟨Lc39, hQ39, lq39, yq39, zq39⟩, st39⟩ := X36.virtualBack hx (y := (⟨"com/example/fielder/fielder/ForwardState", "refund", "()J"⟩ : MethodName)) (z := (⟨"com/example/fielder/fielder/ForwardState", "refund", "()J"⟩ : MethodName)) hown (mvT hZ (w62 hw)) (mvT hZ (w63 hw)) (notFace_of_selects (args := #[]) (mvT hZ (w65 hw))) (mvT hZ (w65 hw)) (mvT hZ (w64 hw)) (by decide) (backOf (W := 0) (rm_g_refund l Z a0 hw [] b20 q2 h29 n0 (Nat.le_trans Z0 sz30) f38) hZ (w66 hw) (w32 hw) (by decide) (by decide)) q39a q39c (g := (mkF m 137 #[iv p1, .val (.long q2), .second, .val (.long q3), .second, .val (.long q4), .second, .val (.long q5), .second, rv b1, rv b8, rv b20, rv b_29, iv 1, .unset] [(.ref b20)])) rfl (by rw [hml]; rfl) (Steps.refl _) (argsL := []) (rest := []) (lenOf pd_5 rfl) rfl (by show 2 * 0 + _ ≤ _; exact Nat.le_of_eq rfl) (hb hby at_137) (fun _ _ => ⟨rfl, e36, (by decide : 5 + 0 ≤ _), (by decide : 16 + 0 ≤ _)⟩)
    dsimp only [Pt.U, Pt.locs, Pt.cells, Pt.slots] at X39 lq39 yq39 zq39 st39 hQ39
    subst lq39 yq39 zq39
    obtain ⟨h39, e39⟩ : ∃ z, T39.heap = z := ⟨_, rfl⟩
    rw [e39] at hQ39
    obtain ⟨rfl, N39q, he39⟩ := hQ39
    have N39 := Fr.app N36 N39q
    rw [he39] at e39
    refine go_tr st39 ?_
    show Go _ _ _ _ (T39.setTop (mkF m 140 #[iv p1, .val (.long q2), .second, .val (.long q3), .second, .val (.long q4), .second, .val (.long q5), .second, rv b1, rv b8, rv b20, rv b_29, iv 1, .unset] [(.long q2)]))
    refine go_st (fun t k => XS.lloadN X39.here hx rfl (hb hby at_140) rfl k) ?_
    show Go _ _ _ _ (T39.setTop (mkF m 141 #[iv p1, .val (.long q2), .second, .val (.long q3), .second, .val (.long q4), .second, .val (.long q5), .second, rv b1, rv b8, rv b20, rv b_29, iv 1, .unset] [(.long q2), (.long q2)]))
    refine go_st (fun t k => XS.lcmp X39.here hx rfl (hb hby at_141) rfl k) ?_
    show Go _ _ _ _ (T39.setTop (mkF m 142 #[iv p1, .val (.long q2), .second, .val (.long q3), .second, .val (.long q4), .second, .val (.long q5), .second, rv b1, rv b8, rv b20, rv b_29, iv 1, .unset] [(.int (lcmpW q2 q2))]))
    refine go_st (fun t k => XS.ifNo X39.here hx rfl (hb hby at_142) rfl ((if0 _ _).trans (teq (((lcW _ _).trans ((lc_eq _ _).mpr rfl)) : (lcmpW q2 q2) = (0 : Int32))).2) k) ?_
    show Go _ _ _ _ (T39.setTop (mkF m 145 #[iv p1, .val (.long q2), .second, .val (.long q3), .second, .val (.long q4), .second, .val (.long q5), .second, rv b1, rv b8, rv b20, rv b_29, iv 1, .unset] []))
    refine go_st (fun t k => XS.aload X39.here hx rfl (hb hby at_145) rfl rfl k) ?_
    show Go _ _ _ _ (T39.setTop (mkF m 147 #[iv p1, .val (.long q2), .second, .val (.long q3), .second, .val (.long q4), .second, .val (.long q5), .second, rv b1, rv b8, rv b20, rv b_29, iv 1, .unset] [(.ref b20)]))
    have f40 : Fld Z h29 b20 "com/example/fielder/fielder/ForwardState" "conflict" "J" (.long q3) := (p27_3.keep K29 nin0)
    obtain ⟨cq41, kq41, q41a, q41b, q41c⟩ := isOf hZ e39 f37
    obtain ⟨_, _, ⟨T41, L41, kk41, nn41⟩, -, X41, ⟨Lc41, hQ41, lq41, yq41, zq41⟩, st41⟩ := X39.virtualBack hx (y := (⟨"com/example/fielder/fielder/ForwardState", "conflict", "()J"⟩ : MethodName)) (z := (⟨"com/example/fielder/fielder/ForwardState", "conflict", "()J"⟩ : MethodName)) hown (mvT hZ (w67 hw)) (mvT hZ (w68 hw)) (notFace_of_selects (args := #[]) (mvT hZ (w70 hw))) (mvT hZ (w70 hw)) (mvT hZ (w69 hw)) (by decide) (backOf (W := 0) (rm_g_conflict l Z a0 hw [] b20 q3 h29 n0 (Nat.le_trans Z0 sz30) f40) hZ (w71 hw) (w32 hw) (by decide) (by decide)) q41a q41c (g := (mkF m 147 #[iv p1, .val (.long q2), .second, .val (.long q3), .second, .val (.long q4), .second, .val (.long q5), .second, rv b1, rv b8, rv b20, rv b_29, iv 1, .unset] [(.ref b20)])) rfl (by rw [hml]; rfl) (Steps.refl _) (argsL := []) (rest := []) (lenOf pd_5 rfl) rfl (by show 2 * 0 + _ ≤ _; exact Nat.le_of_eq rfl) (hb hby at_147) (fun _ _ => ⟨rfl, e39, (by decide : 5 + 0 ≤ _), (by decide : 16 + 0 ≤ _)⟩)
    dsimp only [Pt.U, Pt.locs, Pt.cells, Pt.slots] at X41 lq41 yq41 zq41 st41 hQ41
    subst lq41 yq41 zq41
    obtain ⟨h41, e41⟩ : ∃ z, T41.heap = z := ⟨_, rfl⟩
    rw [e41] at hQ41
    obtain ⟨rfl, N41q, he41⟩ := hQ41
    have N41 := Fr.app N39 N41q
    rw [he41] at e41
    refine go_tr st41 ?_
    show Go _ _ _ _ (T41.setTop (mkF m 150 #[iv p1, .val (.long q2), .second, .val (.long q3), .second, .val (.long q4), .second, .val (.long q5), .second, rv b1, rv b8, rv b20, rv b_29, iv 1, .unset] [(.long q3)]))
    refine go_st (fun t k => XS.lloadN X41.here hx rfl (hb hby at_150) rfl k) ?_
    show Go _ _ _ _ (T41.setTop (mkF m 151 #[iv p1, .val (.long q2), .second, .val (.long q3), .second, .val (.long q4), .second, .val (.long q5), .second, rv b1, rv b8, rv b20, rv b_29, iv 1, .unset] [(.long q3), (.long q3)]))
    refine go_st (fun t k => XS.lcmp X41.here hx rfl (hb hby at_151) rfl k) ?_
    show Go _ _ _ _ (T41.setTop (mkF m 152 #[iv p1, .val (.long q2), .second, .val (.long q3), .second, .val (.long q4), .second, .val (.long q5), .second, rv b1, rv b8, rv b20, rv b_29, iv 1, .unset] [(.int (lcmpW q3 q3))]))
    refine go_st (fun t k => XS.ifNo X41.here hx rfl (hb hby at_152) rfl ((if0 _ _).trans (teq (((lcW _ _).trans ((lc_eq _ _).mpr rfl)) : (lcmpW q3 q3) = (0 : Int32))).2) k) ?_
    show Go _ _ _ _ (T41.setTop (mkF m 155 #[iv p1, .val (.long q2), .second, .val (.long q3), .second, .val (.long q4), .second, .val (.long q5), .second, rv b1, rv b8, rv b20, rv b_29, iv 1, .unset] []))
    refine go_st (fun t k => XS.aload X41.here hx rfl (hb hby at_155) rfl rfl k) ?_
    show Go _ _ _ _ (T41.setTop (mkF m 157 #[iv p1, .val (.long q2), .second, .val (.long q3), .second, .val (.long q4), .second, .val (.long q5), .second, rv b1, rv b8, rv b20, rv b_29, iv 1, .unset] [(.ref b20)]))
    have f42 : Fld Z h29 b20 "com/example/fielder/fielder/ForwardState" "received" "J" (.long q4) := (p27_4.keep K29 nin0)
    obtain ⟨cq43, kq43, q43a, q43b, q43c⟩ := isOf hZ e41 f37
    obtain ⟨_, _, ⟨T43, L43, kk43, nn43⟩, -, X43, ⟨Lc43, hQ43, lq43, yq43, zq43⟩, st43⟩ := X41.virtualBack hx (y := (⟨"com/example/fielder/fielder/ForwardState", "received", "()J"⟩ : MethodName)) (z := (⟨"com/example/fielder/fielder/ForwardState", "received", "()J"⟩ : MethodName)) hown (mvT hZ (w72 hw)) (mvT hZ (w73 hw)) (notFace_of_selects (args := #[]) (mvT hZ (w75 hw))) (mvT hZ (w75 hw)) (mvT hZ (w74 hw)) (by decide) (backOf (W := 0) (rm_g_received l Z a0 hw [] b20 q4 h29 n0 (Nat.le_trans Z0 sz30) f42) hZ (w76 hw) (w32 hw) (by decide) (by decide)) q43a q43c (g := (mkF m 157 #[iv p1, .val (.long q2), .second, .val (.long q3), .second, .val (.long q4), .second, .val (.long q5), .second, rv b1, rv b8, rv b20, rv b_29, iv 1, .unset] [(.ref b20)])) rfl (by rw [hml]; rfl) (Steps.refl _) (argsL := []) (rest := []) (lenOf pd_5 rfl) rfl (by show 2 * 0 + _ ≤ _; exact Nat.le_of_eq rfl) (hb hby at_157) (fun _ _ => ⟨rfl, e41, (by decide : 5 + 0 ≤ _), (by decide : 16 + 0 ≤ _)⟩)
    dsimp only [Pt.U, Pt.locs, Pt.cells, Pt.slots] at X43 lq43 yq43 zq43 st43 hQ43
    subst lq43 yq43 zq43
    obtain ⟨h43, e43⟩ : ∃ z, T43.heap = z := ⟨_, rfl⟩
    rw [e43] at hQ43
    obtain ⟨rfl, N43q, he43⟩ := hQ43
    have N43 := Fr.app N41 N43q
    rw [he43] at e43
    refine go_tr st43 ?_
    show Go _ _ _ _ (T43.setTop (mkF m 160 #[iv p1, .val (.long q2), .second, .val (.long q3), .second, .val (.long q4), .second, .val (.long q5), .second, rv b1, rv b8, rv b20, rv b_29, iv 1, .unset] [(.long q4)]))
    refine go_st (fun t k => XS.lload X43.here hx rfl (hb hby at_160) rfl k) ?_
    show Go _ _ _ _ (T43.setTop (mkF m 162 #[iv p1, .val (.long q2), .second, .val (.long q3), .second, .val (.long q4), .second, .val (.long q5), .second, rv b1, rv b8, rv b20, rv b_29, iv 1, .unset] [(.long q4), (.long q4)]))
    refine go_st (fun t k => XS.lcmp X43.here hx rfl (hb hby at_162) rfl k) ?_
    show Go _ _ _ _ (T43.setTop (mkF m 163 #[iv p1, .val (.long q2), .second, .val (.long q3), .second, .val (.long q4), .second, .val (.long q5), .second, rv b1, rv b8, rv b20, rv b_29, iv 1, .unset] [(.int (lcmpW q4 q4))]))
    refine go_st (fun t k => XS.ifNo X43.here hx rfl (hb hby at_163) rfl ((if0 _ _).trans (teq (((lcW _ _).trans ((lc_eq _ _).mpr rfl)) : (lcmpW q4 q4) = (0 : Int32))).2) k) ?_
    show Go _ _ _ _ (T43.setTop (mkF m 166 #[iv p1, .val (.long q2), .second, .val (.long q3), .second, .val (.long q4), .second, .val (.long q5), .second, rv b1, rv b8, rv b20, rv b_29, iv 1, .unset] []))
    refine go_st (fun t k => XS.iconst X43.here hx rfl (hb hby at_166) k) ?_
    show Go _ _ _ _ (T43.setTop (mkF m 167 #[iv p1, .val (.long q2), .second, .val (.long q3), .second, .val (.long q4), .second, .val (.long q5), .second, rv b1, rv b8, rv b20, rv b_29, iv 1, .unset] [(.int 1)]))
    refine go_st (fun t k => XS.goto X43.here hx rfl (pc0 := 167) (pc' := 171) rfl (hb hby at_167) (by decide) (by decide) k) ?_
    show Go _ _ _ _ (T43.setTop (mkF m 171 #[iv p1, .val (.long q2), .second, .val (.long q3), .second, .val (.long q4), .second, .val (.long q5), .second, rv b1, rv b8, rv b20, rv b_29, iv 1, .unset] [(.int 1)]))
    refine go_st (fun t k => XS.istore X43.here hx rfl (hb hby at_171) rfl (l' := #[iv p1, .val (.long q2), .second, .val (.long q3), .second, .val (.long q4), .second, .val (.long q5), .second, rv b1, rv b8, rv b20, rv b_29, iv 1, iv 1]) rfl k) ?_
    show Go _ _ _ _ (T43.setTop (mkF m 173 #[iv p1, .val (.long q2), .second, .val (.long q3), .second, .val (.long q4), .second, .val (.long q5), .second, rv b1, rv b8, rv b20, rv b_29, iv 1, iv 1] []))
    refine go_st (fun t k => XS.iload X43.here hx rfl (hb hby at_173) rfl k) ?_
    show Go _ _ _ _ (T43.setTop (mkF m 175 #[iv p1, .val (.long q2), .second, .val (.long q3), .second, .val (.long q4), .second, .val (.long q5), .second, rv b1, rv b8, rv b20, rv b_29, iv 1, iv 1] [(.int 1)]))
    refine go_st (fun t k => XS.ifNo X43.here hx rfl (hb hby at_175) rfl ((if0 _ _).trans (feq ((by decide) : ¬ ((1 : Int32) = (0 : Int32)))).1) k) ?_
    show Go _ _ _ _ (T43.setTop (mkF m 178 #[iv p1, .val (.long q2), .second, .val (.long q3), .second, .val (.long q4), .second, .val (.long q5), .second, rv b1, rv b8, rv b20, rv b_29, iv 1, iv 1] []))
    refine go_st (fun t k => XS.iload X43.here hx rfl (hb hby at_178) rfl k) ?_
    show Go _ _ _ _ (T43.setTop (mkF m 180 #[iv p1, .val (.long q2), .second, .val (.long q3), .second, .val (.long q4), .second, .val (.long q5), .second, rv b1, rv b8, rv b20, rv b_29, iv 1, iv 1] [(.int 1)]))
    refine go_st (fun t k => XS.ifNo X43.here hx rfl (hb hby at_180) rfl ((if0 _ _).trans (feq ((by decide) : ¬ ((1 : Int32) = (0 : Int32)))).1) k) ?_
    show Go _ _ _ _ (T43.setTop (mkF m 183 #[iv p1, .val (.long q2), .second, .val (.long q3), .second, .val (.long q4), .second, .val (.long q5), .second, rv b1, rv b8, rv b20, rv b_29, iv 1, iv 1] []))
    refine go_st (fun t k => XS.iconst X43.here hx rfl (hb hby at_183) k) ?_
    show Go _ _ _ _ (T43.setTop (mkF m 184 #[iv p1, .val (.long q2), .second, .val (.long q3), .second, .val (.long q4), .second, .val (.long q5), .second, rv b1, rv b8, rv b20, rv b_29, iv 1, iv 1] [(.int 1)]))
    refine go_st (fun t k => XS.goto X43.here hx rfl (pc0 := 184) (pc' := 188) rfl (hb hby at_184) (by decide) (by decide) k) ?_
    show Go _ _ _ _ (T43.setTop (mkF m 188 #[iv p1, .val (.long q2), .second, .val (.long q3), .second, .val (.long q4), .second, .val (.long q5), .second, rv b1, rv b8, rv b20, rv b_29, iv 1, iv 1] [(.int 1)]))
    have ke44 : Keep h0 h1 [] := (Keep.ext (Keep.refl h0 []) E1)
    have ke45 : Keep h0 h3 [] := (Keep.wr ke44 W3 (Or.inr (Nat.le_of_eq gq1.symm)))
    have ke46 : Keep h0 h5 [] := (Keep.wr ke45 W5 (Or.inr (Nat.le_of_eq gq1.symm)))
    have ke47 : Keep h0 h8 [] := (Keep.ext ke46 E8)
    have ke48 : Keep h0 h19 [] := (Keep.trans ke47 K19 (allS (Or.inr (Nat.le_trans sz17 (Nat.le_of_eq gq8.symm))) all0))
    have ke49 : Keep h0 h20 [] := (Keep.ext ke48 E20)
    have ke50 : Keep h0 h27 [] := (Keep.trans ke49 K27 (allS (Or.inr (Nat.le_trans sz25 (Nat.le_of_eq gq20.symm))) all0))
    have ke51 : Keep h0 h29 [] := (Keep.trans ke50 K29 all0)
    obtain ⟨fs, hr, hrun, hended, hW, hsame⟩ := X43.leave (v := some (.int 1)) (fun h => by rw [Bd.returns] at h; cases h)
    refine ⟨_, _, ?_, hrun, hended, _, _, rfl, ?_, ⟨_, rfl⟩, hW, hsame.mono (by decide) (by decide)⟩
    · exact retN X43 hx (t := .boolean) Bd.returns (by simp) (hb hby at_188) hr
    · show Q_law _ _ _ _ _ _ _ _ _ _ T43.heap _
      rw [e43]
      exact ⟨rfl, N43, ke51⟩
  · skip
    refine go_st (fun t k => XS.ifNo X5.here hx rfl (hb hby at_32) rfl ((if0 _ _).trans (feq (hc7 : ¬ ((((p1).toUInt32 >>> ((16 : Int32) &&& 31).toUInt32).toInt32 &&& (1 : Int32)) = (0 : Int32)))).1) k) ?_
    show Go _ _ _ _ (T5.setTop (mkF m 35 #[iv p1, .val (.long q2), .second, .val (.long q3), .second, .val (.long q4), .second, .val (.long q5), .second, rv b1, .unset, .unset, .unset, .unset, .unset] []))
    refine go_st (fun t k => XS.aconstNull X5.here hx rfl (hb hby at_35) k) ?_
    show Go _ _ _ _ (T5.setTop (mkF m 36 #[iv p1, .val (.long q2), .second, .val (.long q3), .second, .val (.long q4), .second, .val (.long q5), .second, rv b1, .unset, .unset, .unset, .unset, .unset] [.null]))
    refine go_st (fun t k => XS.goto X5.here hx rfl (pc0 := 36) (pc' := 48) rfl (hb hby at_36) (by decide) (by decide) k) ?_
    show Go _ _ _ _ (T5.setTop (mkF m 48 #[iv p1, .val (.long q2), .second, .val (.long q3), .second, .val (.long q4), .second, .val (.long q5), .second, rv b1, .unset, .unset, .unset, .unset, .unset] [.null]))
    refine go_st (fun t k => XS.astore X5.here hx rfl (hb hby at_48) rfl rfl (l' := #[iv p1, .val (.long q2), .second, .val (.long q3), .second, .val (.long q4), .second, .val (.long q5), .second, rv b1, .val .null, .unset, .unset, .unset, .unset]) rfl k) ?_
    show Go _ _ _ _ (T5.setTop (mkF m 50 #[iv p1, .val (.long q2), .second, .val (.long q3), .second, .val (.long q4), .second, .val (.long q5), .second, rv b1, .val .null, .unset, .unset, .unset, .unset] []))
    obtain ⟨T52, h52, X52, e52, E52, A52, D52, -, st52⟩ := newO X5 hx hZ hown (w30 hw) (w31 hw) (w32 hw) e5 (g := (mkF m 50 #[iv p1, .val (.long q2), .second, .val (.long q3), .second, .val (.long q4), .second, .val (.long q5), .second, rv b1, .val .null, .unset, .unset, .unset, .unset] [])) rfl (hb hby at_50) (by decide) (by decide)
    obtain ⟨b52, gq52⟩ : ∃ z, z = h5.size := ⟨_, rfl⟩
    rw [← gq52] at A52 D52 st52
    have f53 : Fld Z h52 b52 "com/example/fielder/fielder/ForwardState" "messagePrefix" "Ljava/lang/String;" .null := D52 (Or.inr (w43 hw)) (ty := (.object "java/lang/String")) (by decide)
    have f54 : Fld Z h52 b52 "com/example/fielder/fielder/ForwardState" "refund" "J" (.long 0) := D52 (Or.inr (w45 hw)) (ty := .long) (by decide)
    have f55 : Fld Z h52 b52 "com/example/fielder/fielder/ForwardState" "conflict" "J" (.long 0) := D52 (Or.inr (w47 hw)) (ty := .long) (by decide)
    have f56 : Fld Z h52 b52 "com/example/fielder/fielder/ForwardState" "received" "J" (.long 0) := D52 (Or.inr (w49 hw)) (ty := .long) (by decide)
    refine go_st (fun t k => st52 t k) ?_
    show Go _ _ _ _ (T52.setTop (mkF m 53 #[iv p1, .val (.long q2), .second, .val (.long q3), .second, .val (.long q4), .second, .val (.long q5), .second, rv b1, .val .null, .unset, .unset, .unset, .unset] [(.ref b52)]))
    refine go_st (fun t k => XS.dup X52.here hx rfl (hb hby at_53) rfl rfl k) ?_
    show Go _ _ _ _ (T52.setTop (mkF m 54 #[iv p1, .val (.long q2), .second, .val (.long q3), .second, .val (.long q4), .second, .val (.long q5), .second, rv b1, .val .null, .unset, .unset, .unset, .unset] [(.ref b52), (.ref b52)]))
    refine go_st (fun t k => XS.aload X52.here hx rfl (hb hby at_54) rfl rfl k) ?_
    show Go _ _ _ _ (T52.setTop (mkF m 56 #[iv p1, .val (.long q2), .second, .val (.long q3), .second, .val (.long q4), .second, .val (.long q5), .second, rv b1, .val .null, .unset, .unset, .unset, .unset] [.null, (.ref b52), (.ref b52)]))
    refine go_st (fun t k => XS.lloadN X52.here hx rfl (hb hby at_56) rfl k) ?_
    show Go _ _ _ _ (T52.setTop (mkF m 57 #[iv p1, .val (.long q2), .second, .val (.long q3), .second, .val (.long q4), .second, .val (.long q5), .second, rv b1, .val .null, .unset, .unset, .unset, .unset] [(.long q2), .null, (.ref b52), (.ref b52)]))
    refine go_st (fun t k => XS.lloadN X52.here hx rfl (hb hby at_57) rfl k) ?_
    show Go _ _ _ _ (T52.setTop (mkF m 58 #[iv p1, .val (.long q2), .second, .val (.long q3), .second, .val (.long q4), .second, .val (.long q5), .second, rv b1, .val .null, .unset, .unset, .unset, .unset] [(.long q3), (.long q2), .null, (.ref b52), (.ref b52)]))
    refine go_st (fun t k => XS.lload X52.here hx rfl (hb hby at_58) rfl k) ?_
    show Go _ _ _ _ (T52.setTop (mkF m 60 #[iv p1, .val (.long q2), .second, .val (.long q3), .second, .val (.long q4), .second, .val (.long q5), .second, rv b1, .val .null, .unset, .unset, .unset, .unset] [(.long q4), (.long q3), (.long q2), .null, (.ref b52), (.ref b52)]))
    have sz57 : h0.size ≤ h3.size := (Nat.le_trans E1.1 (Nat.le_of_eq W3.size.symm))
    have sz58 : h0.size ≤ h5.size := (Nat.le_trans sz57 (Nat.le_of_eq W5.size.symm))
    have g_b52 : n0 ≤ b52 := Nat.le_trans (Nat.le_trans Z0 sz58) (Nat.le_of_eq gq52.symm)
    have sz59 : h0.size ≤ h52.size := (Nat.le_trans sz58 E52.1)
    obtain ⟨_, _, ⟨T60, L60, kk60, nn60⟩, -, X60, ⟨Lc60, hQ60, lq60, yq60, zq60⟩, st60⟩ := X52.specialBack hx (y := (⟨"com/example/fielder/fielder/ForwardState", "<init>", "(Ljava/lang/String;JJJ)V"⟩ : MethodName)) rfl hown (mvT hZ (w33 hw)) (mvT hZ (w34 hw)) (mvT hZ (w35 hw)) (by decide) (backOf (W := 1) (rm_ctor l Z a0 hw [] b52 .null q2 q3 q4 h52 n0 (Nat.le_trans Z0 sz59) A52 f53 f54 f55 f56 g_b52 rfl) hZ (w35 hw) (w32 hw) (by decide) (by decide)) (g := (mkF m 60 #[iv p1, .val (.long q2), .second, .val (.long q3), .second, .val (.long q4), .second, .val (.long q5), .second, rv b1, .val .null, .unset, .unset, .unset, .unset] [(.long q4), (.long q3), (.long q2), .null, (.ref b52), (.ref b52)])) rfl (by rw [hml]; rfl) (Steps.refl _) (a := b52) (argsL := [.null, (.long q2), (.long q3), (.long q4)]) (rest := [(.ref b52)]) (lenOf pd_1 rfl) rfl (by show 2 * 0 + _ ≤ _; exact Nat.le_of_eq rfl) (hb hby at_60) (fun _ _ => ⟨rfl, e52, (by decide : 2 + 0 ≤ _), (by decide : 6 + 0 ≤ _)⟩)
    dsimp only [Pt.U, Pt.locs, Pt.cells, Pt.slots] at X60 lq60 yq60 zq60 st60 hQ60
    subst lq60 yq60 zq60
    obtain ⟨h60, e60⟩ : ∃ z, T60.heap = z := ⟨_, rfl⟩
    rw [e60] at hQ60
    obtain ⟨rfl, N60q, K60, p60_0, p60_1, p60_2, p60_3, p60_4⟩ := hQ60
    have N60 := Fr.app N5 N60q
    refine go_tr st60 ?_
    show Go _ _ _ _ (T60.setTop (mkF m 63 #[iv p1, .val (.long q2), .second, .val (.long q3), .second, .val (.long q4), .second, .val (.long q5), .second, rv b1, .val .null, .unset, .unset, .unset, .unset] [(.ref b52)]))
    refine go_st (fun t k => XS.astore X60.here hx rfl (hb hby at_63) rfl rfl (l' := #[iv p1, .val (.long q2), .second, .val (.long q3), .second, .val (.long q4), .second, .val (.long q5), .second, rv b1, .val .null, rv b52, .unset, .unset, .unset]) rfl k) ?_
    show Go _ _ _ _ (T60.setTop (mkF m 65 #[iv p1, .val (.long q2), .second, .val (.long q3), .second, .val (.long q4), .second, .val (.long q5), .second, rv b1, .val .null, rv b52, .unset, .unset, .unset] []))
    refine go_st (fun t k => XS.aload X60.here hx rfl (hb hby at_65) rfl rfl k) ?_
    show Go _ _ _ _ (T60.setTop (mkF m 67 #[iv p1, .val (.long q2), .second, .val (.long q3), .second, .val (.long q4), .second, .val (.long q5), .second, rv b1, .val .null, rv b52, .unset, .unset, .unset] [(.ref b52)]))
    refine go_st (fun t k => XS.lload X60.here hx rfl (hb hby at_67) rfl k) ?_
    show Go _ _ _ _ (T60.setTop (mkF m 69 #[iv p1, .val (.long q2), .second, .val (.long q3), .second, .val (.long q4), .second, .val (.long q5), .second, rv b1, .val .null, rv b52, .unset, .unset, .unset] [(.long q5), (.ref b52)]))
    have sz61 : h0.size ≤ h60.size := (Nat.le_trans sz59 K60.1)
    obtain ⟨cq62, kq62, q62a, q62b, q62c⟩ := isOf hZ e60 p60_0
    obtain ⟨_, _, ⟨T62, L62, kk62, nn62⟩, -, X62, ⟨Lc62, hQ62, lq62, yq62, zq62⟩, st62⟩ := X60.virtualBack hx (y := (⟨"com/example/fielder/fielder/ForwardState", "pastConflict", "(J)Lcom/example/fielder/fielder/ForwardState;"⟩ : MethodName)) (z := (⟨"com/example/fielder/fielder/ForwardState", "pastConflict", "(J)Lcom/example/fielder/fielder/ForwardState;"⟩ : MethodName)) hown (mvT hZ (w50 hw)) (mvT hZ (w51 hw)) (notFace_of_selects (args := #[]) (mvT hZ (w53 hw))) (mvT hZ (w53 hw)) (mvT hZ (w52 hw)) (by decide) (backOf (W := 0) (rm_past l Z a0 hw [] b52 q5 .null q2 q3 q4 h60 n0 (Nat.le_trans Z0 sz61) p60_1 p60_2 p60_3 p60_4 rfl) hZ (w54 hw) (w32 hw) (by decide) (by decide)) q62a q62c (g := (mkF m 69 #[iv p1, .val (.long q2), .second, .val (.long q3), .second, .val (.long q4), .second, .val (.long q5), .second, rv b1, .val .null, rv b52, .unset, .unset, .unset] [(.long q5), (.ref b52)])) rfl (by rw [hml]; rfl) (Steps.refl _) (argsL := [(.long q5)]) (rest := []) (lenOf pd_3 rfl) rfl (by show 2 * 0 + _ ≤ _; exact Nat.le_of_eq rfl) (hb hby at_69) (fun _ _ => ⟨rfl, e60, (by decide : 2 + 1 ≤ _), (by decide : 6 + 4 ≤ _)⟩)
    dsimp only [Pt.U, Pt.locs, Pt.cells, Pt.slots] at X62 lq62 yq62 zq62 st62 hQ62
    subst lq62 yq62 zq62
    obtain ⟨h62, e62⟩ : ∃ z, T62.heap = z := ⟨_, rfl⟩
    rw [e62] at hQ62
    obtain ⟨b_62, rfl, N62q, K62, gf62_0, lf62_0, p62_1, p62_2, p62_3, p62_4, p62_5⟩ := hQ62
    have N62 := Fr.app N60 N62q
    refine go_tr st62 ?_
    show Go _ _ _ _ (T62.setTop (mkF m 72 #[iv p1, .val (.long q2), .second, .val (.long q3), .second, .val (.long q4), .second, .val (.long q5), .second, rv b1, .val .null, rv b52, .unset, .unset, .unset] [(.ref b_62)]))
    refine go_st (fun t k => XS.astore X62.here hx rfl (hb hby at_72) rfl rfl (l' := #[iv p1, .val (.long q2), .second, .val (.long q3), .second, .val (.long q4), .second, .val (.long q5), .second, rv b1, .val .null, rv b52, rv b_62, .unset, .unset]) rfl k) ?_
    show Go _ _ _ _ (T62.setTop (mkF m 74 #[iv p1, .val (.long q2), .second, .val (.long q3), .second, .val (.long q4), .second, .val (.long q5), .second, rv b1, .val .null, rv b52, rv b_62, .unset, .unset] []))
    refine go_st (fun t k => XS.aload X62.here hx rfl (hb hby at_74) rfl rfl k) ?_
    show Go _ _ _ _ (T62.setTop (mkF m 76 #[iv p1, .val (.long q2), .second, .val (.long q3), .second, .val (.long q4), .second, .val (.long q5), .second, rv b1, .val .null, rv b52, rv b_62, .unset, .unset] [(.ref b_62)]))
    have sz63 : h0.size ≤ h62.size := (Nat.le_trans sz61 K62.1)
    obtain ⟨cq64, kq64, q64a, q64b, q64c⟩ := isOf hZ e62 p62_1
    obtain ⟨_, _, ⟨T64, L64, kk64, nn64⟩, -, X64, ⟨Lc64, hQ64, lq64, yq64, zq64⟩, st64⟩ := X62.virtualBack hx (y := (⟨"com/example/fielder/fielder/ForwardState", "messagePrefix", "()Ljava/lang/String;"⟩ : MethodName)) (z := (⟨"com/example/fielder/fielder/ForwardState", "messagePrefix", "()Ljava/lang/String;"⟩ : MethodName)) hown (mvT hZ (w57 hw)) (mvT hZ (w58 hw)) (notFace_of_selects (args := #[]) (mvT hZ (w60 hw))) (mvT hZ (w60 hw)) (mvT hZ (w59 hw)) (by decide) (backOf (W := 0) (rm_gp l Z a0 hw [] b_62 .null h62 n0 (Nat.le_trans Z0 sz63) p62_2 rfl) hZ (w61 hw) (w32 hw) (by decide) (by decide)) q64a q64c (g := (mkF m 76 #[iv p1, .val (.long q2), .second, .val (.long q3), .second, .val (.long q4), .second, .val (.long q5), .second, rv b1, .val .null, rv b52, rv b_62, .unset, .unset] [(.ref b_62)])) rfl (by rw [hml]; rfl) (Steps.refl _) (argsL := []) (rest := []) (lenOf pd_4 rfl) rfl (by show 2 * 0 + _ ≤ _; exact Nat.le_of_eq rfl) (hb hby at_76) (fun _ _ => ⟨rfl, e62, (by decide : 3 + 0 ≤ _), (by decide : 10 + 0 ≤ _)⟩)
    dsimp only [Pt.U, Pt.locs, Pt.cells, Pt.slots] at X64 lq64 yq64 zq64 st64 hQ64
    subst lq64 yq64 zq64
    obtain ⟨h64, e64⟩ : ∃ z, T64.heap = z := ⟨_, rfl⟩
    rw [e64] at hQ64
    obtain ⟨rfl, N64q, he64⟩ := hQ64
    have N64 := Fr.app N62 N64q
    rw [he64] at e64
    refine go_tr st64 ?_
    show Go _ _ _ _ (T64.setTop (mkF m 79 #[iv p1, .val (.long q2), .second, .val (.long q3), .second, .val (.long q4), .second, .val (.long q5), .second, rv b1, .val .null, rv b52, rv b_62, .unset, .unset] [.null]))
    refine go_st (fun t k => XS.aload X64.here hx rfl (hb hby at_79) rfl rfl k) ?_
    show Go _ _ _ _ (T64.setTop (mkF m 81 #[iv p1, .val (.long q2), .second, .val (.long q3), .second, .val (.long q4), .second, .val (.long q5), .second, rv b1, .val .null, rv b52, rv b_62, .unset, .unset] [.null, .null]))
    refine go_st (fun t k => Jvm.RoadKit.acmp (g := (mkF m 81 #[iv p1, .val (.long q2), .second, .val (.long q3), .second, .val (.long q4), .second, .val (.long q5), .second, rv b1, .val .null, rv b52, rv b_62, .unset, .unset] [.null, .null])) X64 hx rfl rfl rfl (pc0 := 81) (pc' := 84) (same := true) rfl (hb hby at_81) rfl (decide_eq_true rfl) (by decide) (by decide) k) ?_
    show Go _ _ _ _ (T64.setTop (mkF m 84 #[iv p1, .val (.long q2), .second, .val (.long q3), .second, .val (.long q4), .second, .val (.long q5), .second, rv b1, .val .null, rv b52, rv b_62, .unset, .unset] []))
    refine go_st (fun t k => XS.aload X64.here hx rfl (hb hby at_84) rfl rfl k) ?_
    show Go _ _ _ _ (T64.setTop (mkF m 86 #[iv p1, .val (.long q2), .second, .val (.long q3), .second, .val (.long q4), .second, .val (.long q5), .second, rv b1, .val .null, rv b52, rv b_62, .unset, .unset] [(.ref b_62)]))
    obtain ⟨cq65, kq65, q65a, q65b, q65c⟩ := isOf hZ e64 p62_1
    obtain ⟨_, _, ⟨T65, L65, kk65, nn65⟩, -, X65, ⟨Lc65, hQ65, lq65, yq65, zq65⟩, st65⟩ := X64.virtualBack hx (y := (⟨"com/example/fielder/fielder/ForwardState", "refund", "()J"⟩ : MethodName)) (z := (⟨"com/example/fielder/fielder/ForwardState", "refund", "()J"⟩ : MethodName)) hown (mvT hZ (w62 hw)) (mvT hZ (w63 hw)) (notFace_of_selects (args := #[]) (mvT hZ (w65 hw))) (mvT hZ (w65 hw)) (mvT hZ (w64 hw)) (by decide) (backOf (W := 0) (rm_g_refund l Z a0 hw [] b_62 q2 h62 n0 (Nat.le_trans Z0 sz63) p62_3) hZ (w66 hw) (w32 hw) (by decide) (by decide)) q65a q65c (g := (mkF m 86 #[iv p1, .val (.long q2), .second, .val (.long q3), .second, .val (.long q4), .second, .val (.long q5), .second, rv b1, .val .null, rv b52, rv b_62, .unset, .unset] [(.ref b_62)])) rfl (by rw [hml]; rfl) (Steps.refl _) (argsL := []) (rest := []) (lenOf pd_5 rfl) rfl (by show 2 * 0 + _ ≤ _; exact Nat.le_of_eq rfl) (hb hby at_86) (fun _ _ => ⟨rfl, e64, (by decide : 3 + 0 ≤ _), (by decide : 10 + 0 ≤ _)⟩)
    dsimp only [Pt.U, Pt.locs, Pt.cells, Pt.slots] at X65 lq65 yq65 zq65 st65 hQ65
    subst lq65 yq65 zq65
    obtain ⟨h65, e65⟩ : ∃ z, T65.heap = z := ⟨_, rfl⟩
    rw [e65] at hQ65
    obtain ⟨rfl, N65q, he65⟩ := hQ65
    have N65 := Fr.app N64 N65q
    rw [he65] at e65
    refine go_tr st65 ?_
    show Go _ _ _ _ (T65.setTop (mkF m 89 #[iv p1, .val (.long q2), .second, .val (.long q3), .second, .val (.long q4), .second, .val (.long q5), .second, rv b1, .val .null, rv b52, rv b_62, .unset, .unset] [(.long q2)]))
    refine go_st (fun t k => XS.lloadN X65.here hx rfl (hb hby at_89) rfl k) ?_
    show Go _ _ _ _ (T65.setTop (mkF m 90 #[iv p1, .val (.long q2), .second, .val (.long q3), .second, .val (.long q4), .second, .val (.long q5), .second, rv b1, .val .null, rv b52, rv b_62, .unset, .unset] [(.long q2), (.long q2)]))
    refine go_st (fun t k => XS.lcmp X65.here hx rfl (hb hby at_90) rfl k) ?_
    show Go _ _ _ _ (T65.setTop (mkF m 91 #[iv p1, .val (.long q2), .second, .val (.long q3), .second, .val (.long q4), .second, .val (.long q5), .second, rv b1, .val .null, rv b52, rv b_62, .unset, .unset] [(.int (lcmpW q2 q2))]))
    refine go_st (fun t k => XS.ifNo X65.here hx rfl (hb hby at_91) rfl ((if0 _ _).trans (teq (((lcW _ _).trans ((lc_eq _ _).mpr rfl)) : (lcmpW q2 q2) = (0 : Int32))).2) k) ?_
    show Go _ _ _ _ (T65.setTop (mkF m 94 #[iv p1, .val (.long q2), .second, .val (.long q3), .second, .val (.long q4), .second, .val (.long q5), .second, rv b1, .val .null, rv b52, rv b_62, .unset, .unset] []))
    refine go_st (fun t k => XS.aload X65.here hx rfl (hb hby at_94) rfl rfl k) ?_
    show Go _ _ _ _ (T65.setTop (mkF m 96 #[iv p1, .val (.long q2), .second, .val (.long q3), .second, .val (.long q4), .second, .val (.long q5), .second, rv b1, .val .null, rv b52, rv b_62, .unset, .unset] [(.ref b_62)]))
    obtain ⟨cq66, kq66, q66a, q66b, q66c⟩ := isOf hZ e65 p62_1
    obtain ⟨_, _, ⟨T66, L66, kk66, nn66⟩, -, X66, ⟨Lc66, hQ66, lq66, yq66, zq66⟩, st66⟩ := X65.virtualBack hx (y := (⟨"com/example/fielder/fielder/ForwardState", "conflict", "()J"⟩ : MethodName)) (z := (⟨"com/example/fielder/fielder/ForwardState", "conflict", "()J"⟩ : MethodName)) hown (mvT hZ (w67 hw)) (mvT hZ (w68 hw)) (notFace_of_selects (args := #[]) (mvT hZ (w70 hw))) (mvT hZ (w70 hw)) (mvT hZ (w69 hw)) (by decide) (backOf (W := 0) (rm_g_conflict l Z a0 hw [] b_62 q5 h62 n0 (Nat.le_trans Z0 sz63) p62_4) hZ (w71 hw) (w32 hw) (by decide) (by decide)) q66a q66c (g := (mkF m 96 #[iv p1, .val (.long q2), .second, .val (.long q3), .second, .val (.long q4), .second, .val (.long q5), .second, rv b1, .val .null, rv b52, rv b_62, .unset, .unset] [(.ref b_62)])) rfl (by rw [hml]; rfl) (Steps.refl _) (argsL := []) (rest := []) (lenOf pd_5 rfl) rfl (by show 2 * 0 + _ ≤ _; exact Nat.le_of_eq rfl) (hb hby at_96) (fun _ _ => ⟨rfl, e65, (by decide : 3 + 0 ≤ _), (by decide : 10 + 0 ≤ _)⟩)
    dsimp only [Pt.U, Pt.locs, Pt.cells, Pt.slots] at X66 lq66 yq66 zq66 st66 hQ66
    subst lq66 yq66 zq66
    obtain ⟨h66, e66⟩ : ∃ z, T66.heap = z := ⟨_, rfl⟩
    rw [e66] at hQ66
    obtain ⟨rfl, N66q, he66⟩ := hQ66
    have N66 := Fr.app N65 N66q
    rw [he66] at e66
    refine go_tr st66 ?_
    show Go _ _ _ _ (T66.setTop (mkF m 99 #[iv p1, .val (.long q2), .second, .val (.long q3), .second, .val (.long q4), .second, .val (.long q5), .second, rv b1, .val .null, rv b52, rv b_62, .unset, .unset] [(.long q5)]))
    refine go_st (fun t k => XS.lload X66.here hx rfl (hb hby at_99) rfl k) ?_
    show Go _ _ _ _ (T66.setTop (mkF m 101 #[iv p1, .val (.long q2), .second, .val (.long q3), .second, .val (.long q4), .second, .val (.long q5), .second, rv b1, .val .null, rv b52, rv b_62, .unset, .unset] [(.long q5), (.long q5)]))
    refine go_st (fun t k => XS.lcmp X66.here hx rfl (hb hby at_101) rfl k) ?_
    show Go _ _ _ _ (T66.setTop (mkF m 102 #[iv p1, .val (.long q2), .second, .val (.long q3), .second, .val (.long q4), .second, .val (.long q5), .second, rv b1, .val .null, rv b52, rv b_62, .unset, .unset] [(.int (lcmpW q5 q5))]))
    refine go_st (fun t k => XS.ifNo X66.here hx rfl (hb hby at_102) rfl ((if0 _ _).trans (teq (((lcW _ _).trans ((lc_eq _ _).mpr rfl)) : (lcmpW q5 q5) = (0 : Int32))).2) k) ?_
    show Go _ _ _ _ (T66.setTop (mkF m 105 #[iv p1, .val (.long q2), .second, .val (.long q3), .second, .val (.long q4), .second, .val (.long q5), .second, rv b1, .val .null, rv b52, rv b_62, .unset, .unset] []))
    refine go_st (fun t k => XS.aload X66.here hx rfl (hb hby at_105) rfl rfl k) ?_
    show Go _ _ _ _ (T66.setTop (mkF m 107 #[iv p1, .val (.long q2), .second, .val (.long q3), .second, .val (.long q4), .second, .val (.long q5), .second, rv b1, .val .null, rv b52, rv b_62, .unset, .unset] [(.ref b_62)]))
    obtain ⟨cq67, kq67, q67a, q67b, q67c⟩ := isOf hZ e66 p62_1
    obtain ⟨_, _, ⟨T67, L67, kk67, nn67⟩, -, X67, ⟨Lc67, hQ67, lq67, yq67, zq67⟩, st67⟩ := X66.virtualBack hx (y := (⟨"com/example/fielder/fielder/ForwardState", "received", "()J"⟩ : MethodName)) (z := (⟨"com/example/fielder/fielder/ForwardState", "received", "()J"⟩ : MethodName)) hown (mvT hZ (w72 hw)) (mvT hZ (w73 hw)) (notFace_of_selects (args := #[]) (mvT hZ (w75 hw))) (mvT hZ (w75 hw)) (mvT hZ (w74 hw)) (by decide) (backOf (W := 0) (rm_g_received l Z a0 hw [] b_62 (q4 + (1 : Int64)) h62 n0 (Nat.le_trans Z0 sz63) p62_5) hZ (w76 hw) (w32 hw) (by decide) (by decide)) q67a q67c (g := (mkF m 107 #[iv p1, .val (.long q2), .second, .val (.long q3), .second, .val (.long q4), .second, .val (.long q5), .second, rv b1, .val .null, rv b52, rv b_62, .unset, .unset] [(.ref b_62)])) rfl (by rw [hml]; rfl) (Steps.refl _) (argsL := []) (rest := []) (lenOf pd_5 rfl) rfl (by show 2 * 0 + _ ≤ _; exact Nat.le_of_eq rfl) (hb hby at_107) (fun _ _ => ⟨rfl, e66, (by decide : 3 + 0 ≤ _), (by decide : 10 + 0 ≤ _)⟩)
    dsimp only [Pt.U, Pt.locs, Pt.cells, Pt.slots] at X67 lq67 yq67 zq67 st67 hQ67
    subst lq67 yq67 zq67
    obtain ⟨h67, e67⟩ : ∃ z, T67.heap = z := ⟨_, rfl⟩
    rw [e67] at hQ67
    obtain ⟨rfl, N67q, he67⟩ := hQ67
    have N67 := Fr.app N66 N67q
    rw [he67] at e67
    refine go_tr st67 ?_
    show Go _ _ _ _ (T67.setTop (mkF m 110 #[iv p1, .val (.long q2), .second, .val (.long q3), .second, .val (.long q4), .second, .val (.long q5), .second, rv b1, .val .null, rv b52, rv b_62, .unset, .unset] [(.long (q4 + (1 : Int64)))]))
    refine go_st (fun t k => XS.lload X67.here hx rfl (hb hby at_110) rfl k) ?_
    show Go _ _ _ _ (T67.setTop (mkF m 112 #[iv p1, .val (.long q2), .second, .val (.long q3), .second, .val (.long q4), .second, .val (.long q5), .second, rv b1, .val .null, rv b52, rv b_62, .unset, .unset] [(.long q4), (.long (q4 + (1 : Int64)))]))
    refine go_st (fun t k => XS.lconst X67.here hx rfl (hb hby at_112) k) ?_
    show Go _ _ _ _ (T67.setTop (mkF m 113 #[iv p1, .val (.long q2), .second, .val (.long q3), .second, .val (.long q4), .second, .val (.long q5), .second, rv b1, .val .null, rv b52, rv b_62, .unset, .unset] [(.long 1), (.long q4), (.long (q4 + (1 : Int64)))]))
    refine go_st (fun t k => XS.ladd X67.here hx rfl (hb hby at_113) rfl k) ?_
    show Go _ _ _ _ (T67.setTop (mkF m 114 #[iv p1, .val (.long q2), .second, .val (.long q3), .second, .val (.long q4), .second, .val (.long q5), .second, rv b1, .val .null, rv b52, rv b_62, .unset, .unset] [(.long (q4 + (1 : Int64))), (.long (q4 + (1 : Int64)))]))
    refine go_st (fun t k => XS.lcmp X67.here hx rfl (hb hby at_114) rfl k) ?_
    show Go _ _ _ _ (T67.setTop (mkF m 115 #[iv p1, .val (.long q2), .second, .val (.long q3), .second, .val (.long q4), .second, .val (.long q5), .second, rv b1, .val .null, rv b52, rv b_62, .unset, .unset] [(.int (lcmpW (q4 + (1 : Int64)) (q4 + (1 : Int64))))]))
    refine go_st (fun t k => XS.ifNo X67.here hx rfl (hb hby at_115) rfl ((if0 _ _).trans (teq (((lcW _ _).trans ((lc_eq _ _).mpr rfl)) : (lcmpW (q4 + (1 : Int64)) (q4 + (1 : Int64))) = (0 : Int32))).2) k) ?_
    show Go _ _ _ _ (T67.setTop (mkF m 118 #[iv p1, .val (.long q2), .second, .val (.long q3), .second, .val (.long q4), .second, .val (.long q5), .second, rv b1, .val .null, rv b52, rv b_62, .unset, .unset] []))
    refine go_st (fun t k => XS.iconst X67.here hx rfl (hb hby at_118) k) ?_
    show Go _ _ _ _ (T67.setTop (mkF m 119 #[iv p1, .val (.long q2), .second, .val (.long q3), .second, .val (.long q4), .second, .val (.long q5), .second, rv b1, .val .null, rv b52, rv b_62, .unset, .unset] [(.int 1)]))
    refine go_st (fun t k => XS.goto X67.here hx rfl (pc0 := 119) (pc' := 123) rfl (hb hby at_119) (by decide) (by decide) k) ?_
    show Go _ _ _ _ (T67.setTop (mkF m 123 #[iv p1, .val (.long q2), .second, .val (.long q3), .second, .val (.long q4), .second, .val (.long q5), .second, rv b1, .val .null, rv b52, rv b_62, .unset, .unset] [(.int 1)]))
    refine go_st (fun t k => XS.istore X67.here hx rfl (hb hby at_123) rfl (l' := #[iv p1, .val (.long q2), .second, .val (.long q3), .second, .val (.long q4), .second, .val (.long q5), .second, rv b1, .val .null, rv b52, rv b_62, iv 1, .unset]) rfl k) ?_
    show Go _ _ _ _ (T67.setTop (mkF m 125 #[iv p1, .val (.long q2), .second, .val (.long q3), .second, .val (.long q4), .second, .val (.long q5), .second, rv b1, .val .null, rv b52, rv b_62, iv 1, .unset] []))
    refine go_st (fun t k => XS.aload X67.here hx rfl (hb hby at_125) rfl rfl k) ?_
    show Go _ _ _ _ (T67.setTop (mkF m 127 #[iv p1, .val (.long q2), .second, .val (.long q3), .second, .val (.long q4), .second, .val (.long q5), .second, rv b1, .val .null, rv b52, rv b_62, iv 1, .unset] [(.ref b52)]))
    have f68 : Fld Z h62 b52 "com/example/fielder/fielder/ForwardState" "messagePrefix" "Ljava/lang/String;" .null := (p60_1.keep K62 nin0)
    have f70 : Exa Z h62 b52 "com/example/fielder/fielder/ForwardState" := (p60_0.keep K62)
    obtain ⟨cq69, kq69, q69a, q69b, q69c⟩ := isOf hZ e67 f70
    obtain ⟨_, _, ⟨T69, L69, kk69, nn69⟩, -, X69, ⟨Lc69, hQ69, lq69, yq69, zq69⟩, st69⟩ := X67.virtualBack hx (y := (⟨"com/example/fielder/fielder/ForwardState", "messagePrefix", "()Ljava/lang/String;"⟩ : MethodName)) (z := (⟨"com/example/fielder/fielder/ForwardState", "messagePrefix", "()Ljava/lang/String;"⟩ : MethodName)) hown (mvT hZ (w57 hw)) (mvT hZ (w58 hw)) (notFace_of_selects (args := #[]) (mvT hZ (w60 hw))) (mvT hZ (w60 hw)) (mvT hZ (w59 hw)) (by decide) (backOf (W := 0) (rm_gp l Z a0 hw [] b52 .null h62 n0 (Nat.le_trans Z0 sz63) f68 rfl) hZ (w61 hw) (w32 hw) (by decide) (by decide)) q69a q69c (g := (mkF m 127 #[iv p1, .val (.long q2), .second, .val (.long q3), .second, .val (.long q4), .second, .val (.long q5), .second, rv b1, .val .null, rv b52, rv b_62, iv 1, .unset] [(.ref b52)])) rfl (by rw [hml]; rfl) (Steps.refl _) (argsL := []) (rest := []) (lenOf pd_4 rfl) rfl (by show 2 * 0 + _ ≤ _; exact Nat.le_of_eq rfl) (hb hby at_127) (fun _ _ => ⟨rfl, e67, (by decide : 3 + 0 ≤ _), (by decide : 10 + 0 ≤ _)⟩)
    dsimp only [Pt.U, Pt.locs, Pt.cells, Pt.slots] at X69 lq69 yq69 zq69 st69 hQ69
    subst lq69 yq69 zq69
    obtain ⟨h69, e69⟩ : ∃ z, T69.heap = z := ⟨_, rfl⟩
    rw [e69] at hQ69
    obtain ⟨rfl, N69q, he69⟩ := hQ69
    have N69 := Fr.app N67 N69q
    rw [he69] at e69
    refine go_tr st69 ?_
    show Go _ _ _ _ (T69.setTop (mkF m 130 #[iv p1, .val (.long q2), .second, .val (.long q3), .second, .val (.long q4), .second, .val (.long q5), .second, rv b1, .val .null, rv b52, rv b_62, iv 1, .unset] [.null]))
    refine go_st (fun t k => XS.aload X69.here hx rfl (hb hby at_130) rfl rfl k) ?_
    show Go _ _ _ _ (T69.setTop (mkF m 132 #[iv p1, .val (.long q2), .second, .val (.long q3), .second, .val (.long q4), .second, .val (.long q5), .second, rv b1, .val .null, rv b52, rv b_62, iv 1, .unset] [.null, .null]))
    refine go_st (fun t k => Jvm.RoadKit.acmp (g := (mkF m 132 #[iv p1, .val (.long q2), .second, .val (.long q3), .second, .val (.long q4), .second, .val (.long q5), .second, rv b1, .val .null, rv b52, rv b_62, iv 1, .unset] [.null, .null])) X69 hx rfl rfl rfl (pc0 := 132) (pc' := 135) (same := true) rfl (hb hby at_132) rfl (decide_eq_true rfl) (by decide) (by decide) k) ?_
    show Go _ _ _ _ (T69.setTop (mkF m 135 #[iv p1, .val (.long q2), .second, .val (.long q3), .second, .val (.long q4), .second, .val (.long q5), .second, rv b1, .val .null, rv b52, rv b_62, iv 1, .unset] []))
    refine go_st (fun t k => XS.aload X69.here hx rfl (hb hby at_135) rfl rfl k) ?_
    show Go _ _ _ _ (T69.setTop (mkF m 137 #[iv p1, .val (.long q2), .second, .val (.long q3), .second, .val (.long q4), .second, .val (.long q5), .second, rv b1, .val .null, rv b52, rv b_62, iv 1, .unset] [(.ref b52)]))
    have f71 : Fld Z h62 b52 "com/example/fielder/fielder/ForwardState" "refund" "J" (.long q2) := (p60_2.keep K62 nin0)
    obtain ⟨cq72, kq72, q72a, q72b, q72c⟩ := isOf hZ e69 f70
    obtain ⟨_, _, ⟨T72, L72, kk72, nn72⟩, -, X72, ⟨Lc72, hQ72, lq72, yq72, zq72⟩, st72⟩ := X69.virtualBack hx (y := (⟨"com/example/fielder/fielder/ForwardState", "refund", "()J"⟩ : MethodName)) (z := (⟨"com/example/fielder/fielder/ForwardState", "refund", "()J"⟩ : MethodName)) hown (mvT hZ (w62 hw)) (mvT hZ (w63 hw)) (notFace_of_selects (args := #[]) (mvT hZ (w65 hw))) (mvT hZ (w65 hw)) (mvT hZ (w64 hw)) (by decide) (backOf (W := 0) (rm_g_refund l Z a0 hw [] b52 q2 h62 n0 (Nat.le_trans Z0 sz63) f71) hZ (w66 hw) (w32 hw) (by decide) (by decide)) q72a q72c (g := (mkF m 137 #[iv p1, .val (.long q2), .second, .val (.long q3), .second, .val (.long q4), .second, .val (.long q5), .second, rv b1, .val .null, rv b52, rv b_62, iv 1, .unset] [(.ref b52)])) rfl (by rw [hml]; rfl) (Steps.refl _) (argsL := []) (rest := []) (lenOf pd_5 rfl) rfl (by show 2 * 0 + _ ≤ _; exact Nat.le_of_eq rfl) (hb hby at_137) (fun _ _ => ⟨rfl, e69, (by decide : 3 + 0 ≤ _), (by decide : 10 + 0 ≤ _)⟩)
    dsimp only [Pt.U, Pt.locs, Pt.cells, Pt.slots] at X72 lq72 yq72 zq72 st72 hQ72
    subst lq72 yq72 zq72
    obtain ⟨h72, e72⟩ : ∃ z, T72.heap = z := ⟨_, rfl⟩
    rw [e72] at hQ72
    obtain ⟨rfl, N72q, he72⟩ := hQ72
    have N72 := Fr.app N69 N72q
    rw [he72] at e72
    refine go_tr st72 ?_
    show Go _ _ _ _ (T72.setTop (mkF m 140 #[iv p1, .val (.long q2), .second, .val (.long q3), .second, .val (.long q4), .second, .val (.long q5), .second, rv b1, .val .null, rv b52, rv b_62, iv 1, .unset] [(.long q2)]))
    refine go_st (fun t k => XS.lloadN X72.here hx rfl (hb hby at_140) rfl k) ?_
    show Go _ _ _ _ (T72.setTop (mkF m 141 #[iv p1, .val (.long q2), .second, .val (.long q3), .second, .val (.long q4), .second, .val (.long q5), .second, rv b1, .val .null, rv b52, rv b_62, iv 1, .unset] [(.long q2), (.long q2)]))
    refine go_st (fun t k => XS.lcmp X72.here hx rfl (hb hby at_141) rfl k) ?_
    show Go _ _ _ _ (T72.setTop (mkF m 142 #[iv p1, .val (.long q2), .second, .val (.long q3), .second, .val (.long q4), .second, .val (.long q5), .second, rv b1, .val .null, rv b52, rv b_62, iv 1, .unset] [(.int (lcmpW q2 q2))]))
    refine go_st (fun t k => XS.ifNo X72.here hx rfl (hb hby at_142) rfl ((if0 _ _).trans (teq (((lcW _ _).trans ((lc_eq _ _).mpr rfl)) : (lcmpW q2 q2) = (0 : Int32))).2) k) ?_
    show Go _ _ _ _ (T72.setTop (mkF m 145 #[iv p1, .val (.long q2), .second, .val (.long q3), .second, .val (.long q4), .second, .val (.long q5), .second, rv b1, .val .null, rv b52, rv b_62, iv 1, .unset] []))
    refine go_st (fun t k => XS.aload X72.here hx rfl (hb hby at_145) rfl rfl k) ?_
    show Go _ _ _ _ (T72.setTop (mkF m 147 #[iv p1, .val (.long q2), .second, .val (.long q3), .second, .val (.long q4), .second, .val (.long q5), .second, rv b1, .val .null, rv b52, rv b_62, iv 1, .unset] [(.ref b52)]))
    have f73 : Fld Z h62 b52 "com/example/fielder/fielder/ForwardState" "conflict" "J" (.long q3) := (p60_3.keep K62 nin0)
    obtain ⟨cq74, kq74, q74a, q74b, q74c⟩ := isOf hZ e72 f70
    obtain ⟨_, _, ⟨T74, L74, kk74, nn74⟩, -, X74, ⟨Lc74, hQ74, lq74, yq74, zq74⟩, st74⟩ := X72.virtualBack hx (y := (⟨"com/example/fielder/fielder/ForwardState", "conflict", "()J"⟩ : MethodName)) (z := (⟨"com/example/fielder/fielder/ForwardState", "conflict", "()J"⟩ : MethodName)) hown (mvT hZ (w67 hw)) (mvT hZ (w68 hw)) (notFace_of_selects (args := #[]) (mvT hZ (w70 hw))) (mvT hZ (w70 hw)) (mvT hZ (w69 hw)) (by decide) (backOf (W := 0) (rm_g_conflict l Z a0 hw [] b52 q3 h62 n0 (Nat.le_trans Z0 sz63) f73) hZ (w71 hw) (w32 hw) (by decide) (by decide)) q74a q74c (g := (mkF m 147 #[iv p1, .val (.long q2), .second, .val (.long q3), .second, .val (.long q4), .second, .val (.long q5), .second, rv b1, .val .null, rv b52, rv b_62, iv 1, .unset] [(.ref b52)])) rfl (by rw [hml]; rfl) (Steps.refl _) (argsL := []) (rest := []) (lenOf pd_5 rfl) rfl (by show 2 * 0 + _ ≤ _; exact Nat.le_of_eq rfl) (hb hby at_147) (fun _ _ => ⟨rfl, e72, (by decide : 3 + 0 ≤ _), (by decide : 10 + 0 ≤ _)⟩)
    dsimp only [Pt.U, Pt.locs, Pt.cells, Pt.slots] at X74 lq74 yq74 zq74 st74 hQ74
    subst lq74 yq74 zq74
    obtain ⟨h74, e74⟩ : ∃ z, T74.heap = z := ⟨_, rfl⟩
    rw [e74] at hQ74
    obtain ⟨rfl, N74q, he74⟩ := hQ74
    have N74 := Fr.app N72 N74q
    rw [he74] at e74
    refine go_tr st74 ?_
    show Go _ _ _ _ (T74.setTop (mkF m 150 #[iv p1, .val (.long q2), .second, .val (.long q3), .second, .val (.long q4), .second, .val (.long q5), .second, rv b1, .val .null, rv b52, rv b_62, iv 1, .unset] [(.long q3)]))
    refine go_st (fun t k => XS.lloadN X74.here hx rfl (hb hby at_150) rfl k) ?_
    show Go _ _ _ _ (T74.setTop (mkF m 151 #[iv p1, .val (.long q2), .second, .val (.long q3), .second, .val (.long q4), .second, .val (.long q5), .second, rv b1, .val .null, rv b52, rv b_62, iv 1, .unset] [(.long q3), (.long q3)]))
    refine go_st (fun t k => XS.lcmp X74.here hx rfl (hb hby at_151) rfl k) ?_
    show Go _ _ _ _ (T74.setTop (mkF m 152 #[iv p1, .val (.long q2), .second, .val (.long q3), .second, .val (.long q4), .second, .val (.long q5), .second, rv b1, .val .null, rv b52, rv b_62, iv 1, .unset] [(.int (lcmpW q3 q3))]))
    refine go_st (fun t k => XS.ifNo X74.here hx rfl (hb hby at_152) rfl ((if0 _ _).trans (teq (((lcW _ _).trans ((lc_eq _ _).mpr rfl)) : (lcmpW q3 q3) = (0 : Int32))).2) k) ?_
    show Go _ _ _ _ (T74.setTop (mkF m 155 #[iv p1, .val (.long q2), .second, .val (.long q3), .second, .val (.long q4), .second, .val (.long q5), .second, rv b1, .val .null, rv b52, rv b_62, iv 1, .unset] []))
    refine go_st (fun t k => XS.aload X74.here hx rfl (hb hby at_155) rfl rfl k) ?_
    show Go _ _ _ _ (T74.setTop (mkF m 157 #[iv p1, .val (.long q2), .second, .val (.long q3), .second, .val (.long q4), .second, .val (.long q5), .second, rv b1, .val .null, rv b52, rv b_62, iv 1, .unset] [(.ref b52)]))
    have f75 : Fld Z h62 b52 "com/example/fielder/fielder/ForwardState" "received" "J" (.long q4) := (p60_4.keep K62 nin0)
    obtain ⟨cq76, kq76, q76a, q76b, q76c⟩ := isOf hZ e74 f70
    obtain ⟨_, _, ⟨T76, L76, kk76, nn76⟩, -, X76, ⟨Lc76, hQ76, lq76, yq76, zq76⟩, st76⟩ := X74.virtualBack hx (y := (⟨"com/example/fielder/fielder/ForwardState", "received", "()J"⟩ : MethodName)) (z := (⟨"com/example/fielder/fielder/ForwardState", "received", "()J"⟩ : MethodName)) hown (mvT hZ (w72 hw)) (mvT hZ (w73 hw)) (notFace_of_selects (args := #[]) (mvT hZ (w75 hw))) (mvT hZ (w75 hw)) (mvT hZ (w74 hw)) (by decide) (backOf (W := 0) (rm_g_received l Z a0 hw [] b52 q4 h62 n0 (Nat.le_trans Z0 sz63) f75) hZ (w76 hw) (w32 hw) (by decide) (by decide)) q76a q76c (g := (mkF m 157 #[iv p1, .val (.long q2), .second, .val (.long q3), .second, .val (.long q4), .second, .val (.long q5), .second, rv b1, .val .null, rv b52, rv b_62, iv 1, .unset] [(.ref b52)])) rfl (by rw [hml]; rfl) (Steps.refl _) (argsL := []) (rest := []) (lenOf pd_5 rfl) rfl (by show 2 * 0 + _ ≤ _; exact Nat.le_of_eq rfl) (hb hby at_157) (fun _ _ => ⟨rfl, e74, (by decide : 3 + 0 ≤ _), (by decide : 10 + 0 ≤ _)⟩)
    dsimp only [Pt.U, Pt.locs, Pt.cells, Pt.slots] at X76 lq76 yq76 zq76 st76 hQ76
    subst lq76 yq76 zq76
    obtain ⟨h76, e76⟩ : ∃ z, T76.heap = z := ⟨_, rfl⟩
    rw [e76] at hQ76
    obtain ⟨rfl, N76q, he76⟩ := hQ76
    have N76 := Fr.app N74 N76q
    rw [he76] at e76
    refine go_tr st76 ?_
    show Go _ _ _ _ (T76.setTop (mkF m 160 #[iv p1, .val (.long q2), .second, .val (.long q3), .second, .val (.long q4), .second, .val (.long q5), .second, rv b1, .val .null, rv b52, rv b_62, iv 1, .unset] [(.long q4)]))
    refine go_st (fun t k => XS.lload X76.here hx rfl (hb hby at_160) rfl k) ?_
    show Go _ _ _ _ (T76.setTop (mkF m 162 #[iv p1, .val (.long q2), .second, .val (.long q3), .second, .val (.long q4), .second, .val (.long q5), .second, rv b1, .val .null, rv b52, rv b_62, iv 1, .unset] [(.long q4), (.long q4)]))
    refine go_st (fun t k => XS.lcmp X76.here hx rfl (hb hby at_162) rfl k) ?_
    show Go _ _ _ _ (T76.setTop (mkF m 163 #[iv p1, .val (.long q2), .second, .val (.long q3), .second, .val (.long q4), .second, .val (.long q5), .second, rv b1, .val .null, rv b52, rv b_62, iv 1, .unset] [(.int (lcmpW q4 q4))]))
    refine go_st (fun t k => XS.ifNo X76.here hx rfl (hb hby at_163) rfl ((if0 _ _).trans (teq (((lcW _ _).trans ((lc_eq _ _).mpr rfl)) : (lcmpW q4 q4) = (0 : Int32))).2) k) ?_
    show Go _ _ _ _ (T76.setTop (mkF m 166 #[iv p1, .val (.long q2), .second, .val (.long q3), .second, .val (.long q4), .second, .val (.long q5), .second, rv b1, .val .null, rv b52, rv b_62, iv 1, .unset] []))
    refine go_st (fun t k => XS.iconst X76.here hx rfl (hb hby at_166) k) ?_
    show Go _ _ _ _ (T76.setTop (mkF m 167 #[iv p1, .val (.long q2), .second, .val (.long q3), .second, .val (.long q4), .second, .val (.long q5), .second, rv b1, .val .null, rv b52, rv b_62, iv 1, .unset] [(.int 1)]))
    refine go_st (fun t k => XS.goto X76.here hx rfl (pc0 := 167) (pc' := 171) rfl (hb hby at_167) (by decide) (by decide) k) ?_
    show Go _ _ _ _ (T76.setTop (mkF m 171 #[iv p1, .val (.long q2), .second, .val (.long q3), .second, .val (.long q4), .second, .val (.long q5), .second, rv b1, .val .null, rv b52, rv b_62, iv 1, .unset] [(.int 1)]))
    refine go_st (fun t k => XS.istore X76.here hx rfl (hb hby at_171) rfl (l' := #[iv p1, .val (.long q2), .second, .val (.long q3), .second, .val (.long q4), .second, .val (.long q5), .second, rv b1, .val .null, rv b52, rv b_62, iv 1, iv 1]) rfl k) ?_
    show Go _ _ _ _ (T76.setTop (mkF m 173 #[iv p1, .val (.long q2), .second, .val (.long q3), .second, .val (.long q4), .second, .val (.long q5), .second, rv b1, .val .null, rv b52, rv b_62, iv 1, iv 1] []))
    refine go_st (fun t k => XS.iload X76.here hx rfl (hb hby at_173) rfl k) ?_
    show Go _ _ _ _ (T76.setTop (mkF m 175 #[iv p1, .val (.long q2), .second, .val (.long q3), .second, .val (.long q4), .second, .val (.long q5), .second, rv b1, .val .null, rv b52, rv b_62, iv 1, iv 1] [(.int 1)]))
    refine go_st (fun t k => XS.ifNo X76.here hx rfl (hb hby at_175) rfl ((if0 _ _).trans (feq ((by decide) : ¬ ((1 : Int32) = (0 : Int32)))).1) k) ?_
    show Go _ _ _ _ (T76.setTop (mkF m 178 #[iv p1, .val (.long q2), .second, .val (.long q3), .second, .val (.long q4), .second, .val (.long q5), .second, rv b1, .val .null, rv b52, rv b_62, iv 1, iv 1] []))
    refine go_st (fun t k => XS.iload X76.here hx rfl (hb hby at_178) rfl k) ?_
    show Go _ _ _ _ (T76.setTop (mkF m 180 #[iv p1, .val (.long q2), .second, .val (.long q3), .second, .val (.long q4), .second, .val (.long q5), .second, rv b1, .val .null, rv b52, rv b_62, iv 1, iv 1] [(.int 1)]))
    refine go_st (fun t k => XS.ifNo X76.here hx rfl (hb hby at_180) rfl ((if0 _ _).trans (feq ((by decide) : ¬ ((1 : Int32) = (0 : Int32)))).1) k) ?_
    show Go _ _ _ _ (T76.setTop (mkF m 183 #[iv p1, .val (.long q2), .second, .val (.long q3), .second, .val (.long q4), .second, .val (.long q5), .second, rv b1, .val .null, rv b52, rv b_62, iv 1, iv 1] []))
    refine go_st (fun t k => XS.iconst X76.here hx rfl (hb hby at_183) k) ?_
    show Go _ _ _ _ (T76.setTop (mkF m 184 #[iv p1, .val (.long q2), .second, .val (.long q3), .second, .val (.long q4), .second, .val (.long q5), .second, rv b1, .val .null, rv b52, rv b_62, iv 1, iv 1] [(.int 1)]))
    refine go_st (fun t k => XS.goto X76.here hx rfl (pc0 := 184) (pc' := 188) rfl (hb hby at_184) (by decide) (by decide) k) ?_
    show Go _ _ _ _ (T76.setTop (mkF m 188 #[iv p1, .val (.long q2), .second, .val (.long q3), .second, .val (.long q4), .second, .val (.long q5), .second, rv b1, .val .null, rv b52, rv b_62, iv 1, iv 1] [(.int 1)]))
    have ke77 : Keep h0 h1 [] := (Keep.ext (Keep.refl h0 []) E1)
    have ke78 : Keep h0 h3 [] := (Keep.wr ke77 W3 (Or.inr (Nat.le_of_eq gq1.symm)))
    have ke79 : Keep h0 h5 [] := (Keep.wr ke78 W5 (Or.inr (Nat.le_of_eq gq1.symm)))
    have ke80 : Keep h0 h52 [] := (Keep.ext ke79 E52)
    have ke81 : Keep h0 h60 [] := (Keep.trans ke80 K60 (allS (Or.inr (Nat.le_trans sz58 (Nat.le_of_eq gq52.symm))) all0))
    have ke82 : Keep h0 h62 [] := (Keep.trans ke81 K62 all0)
    obtain ⟨fs, hr, hrun, hended, hW, hsame⟩ := X76.leave (v := some (.int 1)) (fun h => by rw [Bd.returns] at h; cases h)
    refine ⟨_, _, ?_, hrun, hended, _, _, rfl, ?_, ⟨_, rfl⟩, hW, hsame.mono (by decide) (by decide)⟩
    · exact retN X76 hx (t := .boolean) Bd.returns (by simp) (hb hby at_188) hr
    · show Q_law _ _ _ _ _ _ _ _ _ _ T76.heap _
      rw [e76]
      exact ⟨rfl, N76, ke82⟩
set_option maxRecDepth 65536 in
set_option maxHeartbeats 40000000 in
theorem comes_1 {Post : Tables → Env → Array Value → State → Outcome → State → Prop} (hpost : ∀ tb e args s v u, (limb_1_1.after args s (.returned v) u = true ∧ limb_1_2.after args s (.returned v) u = true ∧ True) → FrameEnd s (.returned v) u (Jvm.fieldLocs frame_1_writes args s ++ Jvm.arrayLocs frame_1_arrays args s ++ Jvm.staticLocs frame_1_statics s) 24 128 → Post tb e args s (.returned v) u) :
    ArmFor flags0 classFile x code maxLocals ret World_1 tables_1 room_1 Calls_1 rest_1 Pre_1 Post := by
  intro l hfl _ _ p e ha hc hk s m args below hf hA hF happ hP
  obtain ⟨hcalls, hrest, hpre⟩ := hP
  obtain ⟨-, -, -, hnamed, -, -, -, hat⟩ := (Spec.applies_iff hf).mp happ
  obtain ⟨hg, hn⟩ := and_e (Cond.before_iff.mp (show (Jvm.Cond.and given_1 narrow_1).before args s = true from hpre))
  obtain ⟨hcnt, ha0⟩ := and_e hg
  obtain ⟨gi0, ha1⟩ := and_e ha0
  obtain ⟨gi1, ha2⟩ := and_e ha1
  obtain ⟨gi2, ha3⟩ := and_e ha2
  obtain ⟨gi3, ha4⟩ := and_e ha3
  have gi4 := ha4
  obtain ⟨w0_, w1_, w2_, w3_, w4_, rfl⟩ : ∃ w0_ w1_ w2_ w3_ w4_ : Value, args = #[w0_, w1_, w2_, w3_, w4_] := by
    have hs : args.size = 5 := by simpa [Cond.value, given_1] using hcnt
    obtain ⟨L⟩ := args
    match L, hs with
    | [w0_, w1_, w2_, w3_, w4_], _ => exact ⟨w0_, w1_, w2_, w3_, w4_, rfl⟩
  have hw := fun d (hd : d ∈ tables_1) => atoms_spec (ws := Jvm.Cond.code x code maxLocals ret :: tables_1) hat d (List.mem_cons_of_mem _ hd)
  have hfit : Fit s := fun {y c} hc i hi => by
    obtain ⟨ha, rfl⟩ := Array.getElem?_eq_some_iff.mp hc
    have q := List.all_eq_true.mp ((Array.all_eq_true_iff_forall_mem.mp hF) _ (Array.getElem_mem ha)) i (List.mem_range.mpr hi)
    simpa [Array.getElem?_eq_getElem hi] using q
  obtain ⟨hsets, hown0⟩ := atoms_of _ (rest_1_c_eq ▸ (show rest_1_c.before _ s = true from hrest))
  obtain ⟨i0, ei0⟩ := is_v gi0
  obtain rfl : w0_ = (.int i0) := Option.some.inj ei0
  obtain ⟨i1, ei1⟩ := isL_v gi1
  obtain rfl : w1_ = (.long i1) := Option.some.inj ei1
  obtain ⟨i2, ei2⟩ := isL_v gi2
  obtain rfl : w2_ = (.long i2) := Option.some.inj ei2
  obtain ⟨i3, ei3⟩ := isL_v gi3
  obtain rfl : w3_ = (.long i3) := Option.some.inj ei3
  obtain ⟨i4, ei4⟩ := isL_v gi4
  obtain rfl : w4_ = (.long i4) := Option.some.inj ei4
  have n3 := not_v (Cond.before_iff.mp (hsets _ (List.mem_of_getElem? (i := 2) rfl)))
  obtain ⟨G1, e6⟩ := is_v (Cond.before_iff.mp (hsets _ (List.mem_of_getElem? (i := 1) rfl)))
  have CS : Sta s s.heap "java/lang/String" "COMPACT_STRINGS" "Z" (.int G1) := Sta.start e6 (Or.inl (hsets _ (List.mem_of_getElem? (i := 0) rfl)))
  have CSn : ¬ (G1 = (0 : Int32)) := gotF (Cond.eq_ints e6 (Term.int_eval (0))) n3
  obtain ⟨n, o, h1, h2, h3, _, L, rfl, ⟨rfl, N, -⟩, hq⟩ := rm_law l s _ hw tables_1 i0 i1 i2 i3 i4 G1 s.heap s.heap.size (Nat.le_refl _) CS CSn (Old.start s) p e ha hc hk s m _ below hf ((Spec.applies_iff_loose hf).mp happ).1 ⟨rfl, State.Warmed39.refl s, rfl⟩ trivial
  refine ⟨n, _, h1, h2, h3, hpost _ _ _ _ _ _ ⟨Cond.after_iff.mpr rfl, Cond.after_iff.mpr (eq_i res_at (Term.int_eval (1)) rfl), trivial⟩ ⟨hq.1, hq.2.1, (hq.2.2.sift fun y hy => Or.inr (N y hy)).mono (by decide) (by decide)⟩⟩
theorem main_1_1 : Claimed_1_1 := comes_1 fun _ _ _ _ _ _ h hF => ⟨h.1, hF⟩
theorem main_1_2 : Claimed_1_2 := comes_1 fun _ _ _ _ _ _ h hF => ⟨h.2.1, hF⟩
end Jvm.Pilot.@@N@@
namespace Jvm.Pilot.@@N@@
open Jvm Jvm.ClassFile Sem Op Lib Jvm.Free Jvm.Stand Jvm.Pilot.@@N@@.Jvm.D
/-! MADE BY PROGRAM (witnessworld.py) out of the Statement's table words and the real class files: 21 classes; the members and pool entries that the words name. The judged class is class 1, her method 1. -/
namespace start1
open Jvm.ClassFile
def u (s : String) : CpInfo := .utf8 (stringToUtf16 s)
/-- a pool by its gaps: so many unusable entries, then the entry; so many at the end -/
def gap : Nat → List CpInfo → List CpInfo
  | 0, r => r
  | n + 1, r => .unusable :: gap n r
def poolList (es : List (Nat × CpInfo)) (last : Nat) : List CpInfo := es.foldr (fun e r => gap e.1 (e.2 :: r)) (gap last [])
def pool (es : List (Nat × CpInfo)) (last : Nat) : Array CpInfo := ⟨poolList es last⟩
def fileOf (pool : Array CpInfo) (this : Nat) (attrs : Array Attribute := #[]) (ms : Array MethodInfo := #[]) (fl : Nat := 33) (sup : Nat := 0) (ifs : Array Nat := #[]) (fds : Array FieldInfo := #[]) : ClassFile where
  minorVersion := 0
  majorVersion := 65
  constantPool := pool
  accessFlags := fl
  thisClass := this
  superClass := sup
  interfaces := ifs
  fields := fds
  methods := ms
  attributes := attrs
def plain (name : String) (sup : Option ClassId) : Class where
  name := name
  kind := .ordinary
  loader := none
  accessFlags := 33
  super := sup
  interfaces := #[]
  cf := none
  fields := #[]
  methods := #[]
  instanceTypes := #[]
  staticTypes := #[]
  resolved := #[]
  callSites := []
  init := .initialized
  statics := none
  mirror := none

def pool0 : Array CpInfo := pool [(5, u "<init>"), (0, u "()V"), (1, .class_ 10), (1, u "java/lang/Object")] 113

def k0c0 : Code := { maxStack := 0, maxLocals := 1, code := object_method_1_code, exceptionTable := #[], attributes := #[] }
def k0m0 : Method := { name := "<init>", desc := "()V", sig := { parameters := [], returnType := none }, accessFlags := 1, code := some k0c0 }
/-- java/lang/Object -/
def k0 : Class := { plain "java/lang/Object" none with
  accessFlags := 33
  interfaces := #[]
  cf := some (fileOf pool0 8 #[] #[{ accessFlags := 1, nameIndex := 5, descriptorIndex := 6, attributes := #[] }] 33 0 #[] #[])
  fields := #[]
  methods := #[k0m0]
  instanceTypes := #[]
  staticTypes := #[]
  resolved := Array.replicate 124 none
  statics := none }

def pool1 : Array CpInfo := pool [(2, .class_ 4), (1, u "java/lang/Object"), (0, u "<init>"), (0, u "()V"), (0, .class_ 8), (0, u "java/lang/String"), (0, .methodref 7 10), (0, .nameAndType 5 11), (0, u "([C)V"), (0, .class_ 13), (0, u "com/example/fielder/fielder/ForwardState"), (0, .methodref 12 15), (0, .nameAndType 5 16), (0, u "(Ljava/lang/String;JJJ)V"), (0, .methodref 12 18), (0, .nameAndType 19 20), (0, u "pastConflict"), (0, u "(J)Lcom/example/fielder/fielder/ForwardState;"), (0, .methodref 12 22), (0, .nameAndType 23 24), (0, u "messagePrefix"), (0, u "()Ljava/lang/String;"), (0, .methodref 12 26), (0, .nameAndType 27 28), (0, u "refund"), (0, u "()J"), (0, .methodref 12 30), (0, .nameAndType 31 28), (0, u "conflict"), (0, .methodref 12 33), (0, .nameAndType 34 28), (0, u "received"), (0, .class_ 36), (0, u "com/example/fielder/fielder/ForwardStatePastConflictPinLaw"), (2, u "law"), (0, u "(IJJJJ)Z")] 5

def k1m0 : Method := { name := "<init>", desc := "()V", sig := { parameters := [], returnType := none }, accessFlags := 1, code := none }
def k1c1 : Code := { maxStack := 9, maxLocals := 15, code := code, exceptionTable := #[], attributes := #[] }
def k1m1 : Method := { name := "law", desc := "(IJJJJ)Z", sig := { parameters := [.int, .long, .long, .long, .long], returnType := some .boolean }, accessFlags := 9, code := some k1c1 }
/-- com/example/fielder/fielder/ForwardStatePastConflictPinLaw -/
def k1 : Class := { plain "com/example/fielder/fielder/ForwardStatePastConflictPinLaw" (some 0) with
  accessFlags := 49
  interfaces := #[]
  cf := some (fileOf pool1 35 #[] #[{ accessFlags := 1, nameIndex := 5, descriptorIndex := 6, attributes := #[] }, { accessFlags := 9, nameIndex := 39, descriptorIndex := 40, attributes := #[] }] 49 2 #[] #[])
  fields := #[]
  methods := #[k1m0, k1m1]
  instanceTypes := #[]
  staticTypes := #[]
  resolved := Array.replicate 46 none
  statics := none }

def pool2 : Array CpInfo := pool [(1, .class_ 2), (0, u "java/io/Serializable"), (0, .class_ 4), (0, u "java/lang/Object")] 2

/-- java/io/Serializable -/
def k2 : Class := { plain "java/io/Serializable" (some 0) with
  accessFlags := 1537
  interfaces := #[]
  cf := some (fileOf pool2 1 #[] #[] 1537 3 #[] #[])
  fields := #[]
  methods := #[]
  instanceTypes := #[]
  staticTypes := #[]
  resolved := Array.replicate 7 none
  statics := none }

def pool3 : Array CpInfo := pool [(1, .class_ 2), (0, u "java/lang/Comparable"), (0, .class_ 4), (0, u "java/lang/Object")] 7

/-- java/lang/Comparable -/
def k3 : Class := { plain "java/lang/Comparable" (some 0) with
  accessFlags := 1537
  interfaces := #[]
  cf := some (fileOf pool3 1 #[] #[] 1537 3 #[] #[])
  fields := #[]
  methods := #[]
  instanceTypes := #[]
  staticTypes := #[]
  resolved := Array.replicate 12 none
  statics := none }

def pool4 : Array CpInfo := pool [(2, .class_ 4), (1, u "java/lang/CharSequence"), (42, .class_ 48), (0, u "java/lang/CharSequence$1CodePointIterator"), (10, .class_ 60), (0, u "java/lang/CharSequence$1CharIterator"), (5, .class_ 67), (0, u "java/lang/Object")] 63

/-- java/lang/CharSequence -/
def k4 : Class := { plain "java/lang/CharSequence" (some 0) with
  accessFlags := 1537
  interfaces := #[]
  cf := some (fileOf pool4 2 #[.nestMembers #[47, 59]] #[] 1537 66 #[] #[])
  fields := #[]
  methods := #[]
  instanceTypes := #[]
  staticTypes := #[]
  resolved := Array.replicate 131 none
  statics := none }

def pool5 : Array CpInfo := pool [(1, .class_ 2), (0, u "java/lang/constant/Constable"), (0, .class_ 4), (0, u "java/lang/Object")] 6

/-- java/lang/constant/Constable -/
def k5 : Class := { plain "java/lang/constant/Constable" (some 0) with
  accessFlags := 1537
  interfaces := #[]
  cf := some (fileOf pool5 1 #[] #[] 1537 3 #[] #[])
  fields := #[]
  methods := #[]
  instanceTypes := #[]
  staticTypes := #[]
  resolved := Array.replicate 11 none
  statics := none }

def pool6 : Array CpInfo := pool [(1, .class_ 2), (0, u "java/lang/constant/ConstantDesc"), (0, .class_ 4), (0, u "java/lang/Object")] 32

/-- java/lang/constant/ConstantDesc -/
def k6 : Class := { plain "java/lang/constant/ConstantDesc" (some 0) with
  accessFlags := 1537
  interfaces := #[]
  cf := some (fileOf pool6 1 #[] #[] 1537 3 #[] #[])
  fields := #[]
  methods := #[]
  instanceTypes := #[]
  staticTypes := #[]
  resolved := Array.replicate 37 none
  statics := none }

def pool7 : Array CpInfo := pool [(1, .methodref 2 3), (0, .class_ 4), (0, .nameAndType 5 6), (0, u "java/lang/Object"), (0, u "<init>"), (0, u "()V"), (2, .fieldref 10 11), (0, .class_ 12), (0, .nameAndType 13 14), (0, u "java/lang/String"), (0, u "value"), (0, u "[B"), (0, .fieldref 10 16), (0, .nameAndType 17 18), (0, u "coder"), (0, u "B"), (2, u "hash"), (0, u "I"), (2, u "hashIsZero"), (0, u "Z"), (0, .methodref 10 28), (0, .nameAndType 5 29), (0, u "([CIILjava/lang/Void;)V"), (8, .fieldref 10 39), (0, .nameAndType 40 26), (0, u "COMPACT_STRINGS"), (1, .class_ 44), (1, u "java/lang/StringUTF16"), (0, u "compress"), (1, .methodref 42 48), (0, .nameAndType 49 50), (0, u "coderFromArrayLen"), (0, u "([BI)B"), (126, .methodref 42 178), (0, .nameAndType 45 179), (0, u "([CII)[B"), (395, .class_ 576), (0, u "java/lang/CharSequence"), (22, u "CASE_INSENSITIVE_ORDER"), (0, u "Ljava/util/Comparator;"), (409, u "([C)V"), (90, u "serialPersistentFields"), (0, u "[Ljava/io/ObjectStreamField;"), (0, .class_ 1104), (0, u "java/lang/String$CaseInsensitiveComparator"), (1, .class_ 1107), (0, u "java/io/Serializable"), (0, .class_ 1109), (0, u "java/lang/Comparable"), (0, .class_ 1111), (0, u "java/lang/constant/Constable"), (0, .class_ 1113), (0, u "java/lang/constant/ConstantDesc"), (2, u "serialVersionUID"), (0, u "J"), (3, u "REPL"), (0, u "C"), (2, u "LATIN1"), (1, u "UTF16")] 323

def k7m0 : Method := { name := "<init>", desc := "()V", sig := { parameters := [], returnType := none }, accessFlags := 1, code := none }
def k7c1 : Code := { maxStack := 5, maxLocals := 2, code := jdk_42_method_3_code, exceptionTable := #[], attributes := #[] }
def k7m1 : Method := { name := "<init>", desc := "([C)V", sig := { parameters := [(.array .char)], returnType := none }, accessFlags := 1, code := some k7c1 }
def k7c2 : Code := { maxStack := 4, maxLocals := 6, code := jdk_42_method_149_code, exceptionTable := #[], attributes := #[] }
def k7m2 : Method := { name := "<init>", desc := "([CIILjava/lang/Void;)V", sig := { parameters := [(.array .char), .int, .int, (.object "java/lang/Void")], returnType := none }, accessFlags := 2, code := some k7c2 }
/-- java/lang/String -/
def k7 : Class := { plain "java/lang/String" (some 0) with
  accessFlags := 49
  interfaces := #[2, 3, 4, 5, 6]
  cf := some (fileOf pool7 10 #[.nestMembers #[1103]] #[{ accessFlags := 1, nameIndex := 5, descriptorIndex := 6, attributes := #[] }, { accessFlags := 1, nameIndex := 5, descriptorIndex := 1010, attributes := #[] }, { accessFlags := 2, nameIndex := 5, descriptorIndex := 29, attributes := #[] }] 49 2 #[1106, 1108, 575, 1110, 1112] #[{ accessFlags := 18, nameIndex := 13, descriptorIndex := 14, attributes := #[] }, { accessFlags := 18, nameIndex := 17, descriptorIndex := 18, attributes := #[] }, { accessFlags := 2, nameIndex := 21, descriptorIndex := 22, attributes := #[] }, { accessFlags := 2, nameIndex := 25, descriptorIndex := 26, attributes := #[] }, { accessFlags := 26, nameIndex := 1116, descriptorIndex := 1117, attributes := #[] }, { accessFlags := 24, nameIndex := 40, descriptorIndex := 26, attributes := #[] }, { accessFlags := 26, nameIndex := 1101, descriptorIndex := 1102, attributes := #[] }, { accessFlags := 26, nameIndex := 1121, descriptorIndex := 1122, attributes := #[] }, { accessFlags := 25, nameIndex := 599, descriptorIndex := 600, attributes := #[] }, { accessFlags := 24, nameIndex := 1125, descriptorIndex := 18, attributes := #[] }, { accessFlags := 24, nameIndex := 1127, descriptorIndex := 18, attributes := #[] }])
  fields := #[{ name := "value", type := (.array .byte), accessFlags := 18, slot := 0, constantValue := 0 }, { name := "coder", type := .byte, accessFlags := 18, slot := 1, constantValue := 0 }, { name := "hash", type := .int, accessFlags := 2, slot := 2, constantValue := 0 }, { name := "hashIsZero", type := .boolean, accessFlags := 2, slot := 3, constantValue := 0 }, { name := "serialVersionUID", type := .long, accessFlags := 26, slot := 0, constantValue := 0 }, { name := "COMPACT_STRINGS", type := .boolean, accessFlags := 24, slot := 1, constantValue := 0 }, { name := "serialPersistentFields", type := (.array (.object "java/io/ObjectStreamField")), accessFlags := 26, slot := 2, constantValue := 0 }, { name := "REPL", type := .char, accessFlags := 26, slot := 3, constantValue := 0 }, { name := "CASE_INSENSITIVE_ORDER", type := (.object "java/util/Comparator"), accessFlags := 25, slot := 4, constantValue := 0 }, { name := "LATIN1", type := .byte, accessFlags := 24, slot := 5, constantValue := 0 }, { name := "UTF16", type := .byte, accessFlags := 24, slot := 6, constantValue := 0 }]
  methods := #[k7m0, k7m1, k7m2]
  instanceTypes := #[(.array .byte), .byte, .int, .boolean]
  staticTypes := #[.long, .boolean, (.array (.object "java/io/ObjectStreamField")), .char, (.object "java/util/Comparator"), .byte, .byte]
  resolved := Array.replicate 1451 none
  statics := some 0 }

def pool8 : Array CpInfo := pool [(6, .class_ 8), (1, u "java/lang/Object"), (0, u "<init>"), (0, u "()V"), (1, .class_ 14), (1, u "java/lang/StringUTF16"), (31, u "$assertionsDisabled"), (0, u "Z"), (13, u "HI_BYTE_SHIFT"), (0, u "I"), (2, u "LO_BYTE_SHIFT"), (49, .methodref 12 116), (0, .nameAndType 117 118), (0, u "compress"), (0, u "([CI[BII)I"), (3, u "([CII)[B"), (138, u "coderFromArrayLen"), (0, u "([BI)B"), (106, .class_ 371), (1, u "java/lang/StringUTF16$LinesSpliterator"), (58, u "MAX_LENGTH"), (196, .class_ 628), (0, u "java/lang/StringUTF16$CodePointsSpliterator"), (0, .class_ 630), (0, u "java/lang/StringUTF16$CharsSpliterator")] 4

def k8m0 : Method := { name := "<init>", desc := "()V", sig := { parameters := [], returnType := none }, accessFlags := 0, code := none }
def k8c1 : Code := { maxStack := 2, maxLocals := 2, code := jdk_52_method_15_code, exceptionTable := #[], attributes := #[] }
def k8m1 : Method := { name := "coderFromArrayLen", desc := "([BI)B", sig := { parameters := [(.array .byte), .int], returnType := some .byte }, accessFlags := 8, code := some k8c1 }
def k8c2 : Code := { maxStack := 5, maxLocals := 6, code := jdk_52_method_16_code, exceptionTable := #[], attributes := #[] }
def k8m2 : Method := { name := "compress", desc := "([CII)[B", sig := { parameters := [(.array .char), .int, .int], returnType := some (.array .byte) }, accessFlags := 9, code := some k8c2 }
def k8c3 : Code := { maxStack := 3, maxLocals := 7, code := jdk_52_method_21_code, exceptionTable := #[], attributes := #[] }
def k8m3 : Method := { name := "compress", desc := "([CI[BII)I", sig := { parameters := [(.array .char), .int, (.array .byte), .int, .int], returnType := some .int }, accessFlags := 9, code := some k8c3 }
/-- java/lang/StringUTF16 -/
def k8 : Class := { plain "java/lang/StringUTF16" (some 0) with
  accessFlags := 48
  interfaces := #[]
  cf := some (fileOf pool8 12 #[.nestMembers #[627, 629, 369]] #[{ accessFlags := 0, nameIndex := 9, descriptorIndex := 10, attributes := #[] }, { accessFlags := 8, nameIndex := 261, descriptorIndex := 262, attributes := #[] }, { accessFlags := 9, nameIndex := 117, descriptorIndex := 122, attributes := #[] }, { accessFlags := 9, nameIndex := 117, descriptorIndex := 118, attributes := #[] }] 48 6 #[] #[{ accessFlags := 26, nameIndex := 61, descriptorIndex := 62, attributes := #[] }, { accessFlags := 26, nameIndex := 65, descriptorIndex := 62, attributes := #[] }, { accessFlags := 24, nameIndex := 430, descriptorIndex := 62, attributes := #[] }, { accessFlags := 4120, nameIndex := 46, descriptorIndex := 47, attributes := #[] }])
  fields := #[{ name := "HI_BYTE_SHIFT", type := .int, accessFlags := 26, slot := 0, constantValue := 0 }, { name := "LO_BYTE_SHIFT", type := .int, accessFlags := 26, slot := 1, constantValue := 0 }, { name := "MAX_LENGTH", type := .int, accessFlags := 24, slot := 2, constantValue := 0 }, { name := "$assertionsDisabled", type := .boolean, accessFlags := 4120, slot := 3, constantValue := 0 }]
  methods := #[k8m0, k8m1, k8m2, k8m3]
  instanceTypes := #[]
  staticTypes := #[.int, .int, .int, .boolean]
  resolved := Array.replicate 635 none
  statics := none }

def pool9 : Array CpInfo := pool [(1, .methodref 2 3), (0, .class_ 4), (0, .nameAndType 5 6), (0, u "java/lang/Object"), (0, u "<init>"), (0, u "()V"), (0, .class_ 8), (0, u "java/lang/Record")] 13

def k9c0 : Code := { maxStack := 1, maxLocals := 1, code := jdk_30_method_1_code, exceptionTable := #[], attributes := #[] }
def k9m0 : Method := { name := "<init>", desc := "()V", sig := { parameters := [], returnType := none }, accessFlags := 4, code := some k9c0 }
/-- java/lang/Record -/
def k9 : Class := { plain "java/lang/Record" (some 0) with
  accessFlags := 1057
  interfaces := #[]
  cf := some (fileOf pool9 7 #[] #[{ accessFlags := 4, nameIndex := 5, descriptorIndex := 6, attributes := #[] }] 1057 2 #[] #[])
  fields := #[]
  methods := #[k9m0]
  instanceTypes := #[]
  staticTypes := #[]
  resolved := Array.replicate 22 none
  statics := none }

def pool10 : Array CpInfo := pool [(1, .methodref 2 3), (0, .class_ 4), (0, .nameAndType 5 6), (0, u "java/lang/Record"), (0, u "<init>"), (0, u "()V"), (0, .fieldref 8 9), (0, .class_ 10), (0, .nameAndType 11 12), (0, u "com/example/fielder/fielder/ForwardState"), (0, u "messagePrefix"), (0, u "Ljava/lang/String;"), (0, .fieldref 8 14), (0, .nameAndType 15 16), (0, u "refund"), (0, u "J"), (0, .fieldref 8 18), (0, .nameAndType 19 16), (0, u "conflict"), (0, .fieldref 8 21), (0, .nameAndType 22 16), (0, u "received"), (0, .methodref 8 24), (0, .nameAndType 5 25), (0, u "(Ljava/lang/String;JJJ)V"), (16, u "(J)Lcom/example/fielder/fielder/ForwardState;"), (0, u "pastConflict"), (0, u "()Ljava/lang/String;"), (2, u "()J")] 23

def k10c0 : Code := { maxStack := 3, maxLocals := 8, code := prog_5_method_1_code, exceptionTable := #[], attributes := #[] }
def k10m0 : Method := { name := "<init>", desc := "(Ljava/lang/String;JJJ)V", sig := { parameters := [(.object "java/lang/String"), .long, .long, .long], returnType := none }, accessFlags := 0, code := some k10c0 }
def k10c1 : Code := { maxStack := 11, maxLocals := 3, code := prog_5_method_3_code, exceptionTable := #[], attributes := #[] }
def k10m1 : Method := { name := "pastConflict", desc := "(J)Lcom/example/fielder/fielder/ForwardState;", sig := { parameters := [.long], returnType := some (.object "com/example/fielder/fielder/ForwardState") }, accessFlags := 0, code := some k10c1 }
def k10c2 : Code := { maxStack := 1, maxLocals := 1, code := prog_5_method_7_code, exceptionTable := #[], attributes := #[] }
def k10m2 : Method := { name := "messagePrefix", desc := "()Ljava/lang/String;", sig := { parameters := [], returnType := some (.object "java/lang/String") }, accessFlags := 1, code := some k10c2 }
def k10c3 : Code := { maxStack := 2, maxLocals := 1, code := prog_5_method_8_code, exceptionTable := #[], attributes := #[] }
def k10m3 : Method := { name := "refund", desc := "()J", sig := { parameters := [], returnType := some .long }, accessFlags := 1, code := some k10c3 }
def k10c4 : Code := { maxStack := 2, maxLocals := 1, code := prog_5_method_9_code, exceptionTable := #[], attributes := #[] }
def k10m4 : Method := { name := "conflict", desc := "()J", sig := { parameters := [], returnType := some .long }, accessFlags := 1, code := some k10c4 }
def k10c5 : Code := { maxStack := 2, maxLocals := 1, code := prog_5_method_10_code, exceptionTable := #[], attributes := #[] }
def k10m5 : Method := { name := "received", desc := "()J", sig := { parameters := [], returnType := some .long }, accessFlags := 1, code := some k10c5 }
/-- com/example/fielder/fielder/ForwardState -/
def k10 : Class := { plain "com/example/fielder/fielder/ForwardState" (some 9) with
  accessFlags := 48
  interfaces := #[]
  cf := some (fileOf pool10 8 #[] #[{ accessFlags := 0, nameIndex := 5, descriptorIndex := 25, attributes := #[] }, { accessFlags := 0, nameIndex := 43, descriptorIndex := 42, attributes := #[] }, { accessFlags := 1, nameIndex := 11, descriptorIndex := 44, attributes := #[] }, { accessFlags := 1, nameIndex := 15, descriptorIndex := 47, attributes := #[] }, { accessFlags := 1, nameIndex := 19, descriptorIndex := 47, attributes := #[] }, { accessFlags := 1, nameIndex := 22, descriptorIndex := 47, attributes := #[] }] 48 2 #[] #[{ accessFlags := 18, nameIndex := 11, descriptorIndex := 12, attributes := #[] }, { accessFlags := 18, nameIndex := 15, descriptorIndex := 16, attributes := #[] }, { accessFlags := 18, nameIndex := 19, descriptorIndex := 16, attributes := #[] }, { accessFlags := 18, nameIndex := 22, descriptorIndex := 16, attributes := #[] }])
  fields := #[{ name := "messagePrefix", type := (.object "java/lang/String"), accessFlags := 18, slot := 0, constantValue := 0 }, { name := "refund", type := .long, accessFlags := 18, slot := 1, constantValue := 0 }, { name := "conflict", type := .long, accessFlags := 18, slot := 2, constantValue := 0 }, { name := "received", type := .long, accessFlags := 18, slot := 3, constantValue := 0 }]
  methods := #[k10m0, k10m1, k10m2, k10m3, k10m4, k10m5]
  instanceTypes := #[(.object "java/lang/String"), .long, .long, .long]
  staticTypes := #[]
  resolved := Array.replicate 71 none
  statics := none }

def pool11 : Array CpInfo := pool [(4, .class_ 6), (1, u "java/lang/Object"), (0, u "<init>"), (0, u "()V"), (5, .class_ 16), (1, u "java/lang/StringLatin1"), (104, u "$assertionsDisabled"), (0, u "Z"), (98, .class_ 223), (1, u "java/lang/StringLatin1$LinesSpliterator"), (166, .class_ 391), (0, u "java/lang/StringLatin1$CharsSpliterator")] 3

def k11m0 : Method := { name := "<init>", desc := "()V", sig := { parameters := [], returnType := none }, accessFlags := 0, code := none }
/-- java/lang/StringLatin1 -/
def k11 : Class := { plain "java/lang/StringLatin1" (some 0) with
  accessFlags := 48
  interfaces := #[]
  cf := some (fileOf pool11 14 #[.nestMembers #[390, 221]] #[{ accessFlags := 0, nameIndex := 7, descriptorIndex := 8, attributes := #[] }] 48 4 #[] #[{ accessFlags := 4120, nameIndex := 121, descriptorIndex := 122, attributes := #[] }])
  fields := #[{ name := "$assertionsDisabled", type := .boolean, accessFlags := 4120, slot := 0, constantValue := 0 }]
  methods := #[k11m0]
  instanceTypes := #[]
  staticTypes := #[.boolean]
  resolved := Array.replicate 395 none
  statics := none }

def pool12 : Array CpInfo := pool [(2, .class_ 4), (1, u "java/lang/Object"), (0, u "<init>"), (0, u "()V"), (17, .class_ 26), (1, u "jdk/internal/util/Preconditions"), (28, .class_ 56), (0, u "jdk/internal/util/Preconditions$4"), (57, .class_ 115), (0, u "jdk/internal/util/Preconditions$1"), (7, u "SIOOBE_FORMATTER"), (0, u "Ljava/util/function/BiFunction;"), (0, .class_ 126), (0, u "jdk/internal/util/Preconditions$2"), (3, u "AIOOBE_FORMATTER"), (0, .class_ 132), (0, u "jdk/internal/util/Preconditions$3"), (3, u "IOOBE_FORMATTER")] 57

def k12m0 : Method := { name := "<init>", desc := "()V", sig := { parameters := [], returnType := none }, accessFlags := 1, code := none }
/-- jdk/internal/util/Preconditions -/
def k12 : Class := { plain "jdk/internal/util/Preconditions" (some 0) with
  accessFlags := 33
  interfaces := #[]
  cf := some (fileOf pool12 24 #[.nestMembers #[55, 131, 125, 114]] #[{ accessFlags := 1, nameIndex := 5, descriptorIndex := 6, attributes := #[] }] 33 2 #[] #[{ accessFlags := 25, nameIndex := 123, descriptorIndex := 124, attributes := #[] }, { accessFlags := 25, nameIndex := 130, descriptorIndex := 124, attributes := #[] }, { accessFlags := 25, nameIndex := 136, descriptorIndex := 124, attributes := #[] }])
  fields := #[{ name := "SIOOBE_FORMATTER", type := (.object "java/util/function/BiFunction"), accessFlags := 25, slot := 0, constantValue := 0 }, { name := "AIOOBE_FORMATTER", type := (.object "java/util/function/BiFunction"), accessFlags := 25, slot := 1, constantValue := 0 }, { name := "IOOBE_FORMATTER", type := (.object "java/util/function/BiFunction"), accessFlags := 25, slot := 2, constantValue := 0 }]
  methods := #[k12m0]
  instanceTypes := #[]
  staticTypes := #[(.object "java/util/function/BiFunction"), (.object "java/util/function/BiFunction"), (.object "java/util/function/BiFunction")]
  resolved := Array.replicate 194 none
  statics := some 1 }

def pool13 : Array CpInfo := pool [(9, u "<init>"), (6, .class_ 18), (1, u "java/lang/Object"), (0, u "()V"), (1, .class_ 23), (1, u "jdk/internal/util/ArraysSupport"), (0, u "LOG2_ARRAY_LONG_INDEX_SCALE"), (0, u "I"), (2, u "U"), (0, u "Ljdk/internal/misc/Unsafe;"), (8, u "BIG_ENDIAN"), (0, u "Z"), (8, u "LOG2_BYTE_BIT_SIZE"), (4, u "LOG2_ARRAY_INT_INDEX_SCALE"), (54, u "JLA"), (0, u "Ljdk/internal/access/JavaLangAccess;"), (11, u "LOG2_ARRAY_BOOLEAN_INDEX_SCALE"), (9, u "LOG2_ARRAY_BYTE_INDEX_SCALE"), (5, u "LOG2_ARRAY_CHAR_INDEX_SCALE"), (5, u "LOG2_ARRAY_SHORT_INDEX_SCALE"), (18, u "LOG2_ARRAY_FLOAT_INDEX_SCALE"), (24, u "LOG2_ARRAY_DOUBLE_INDEX_SCALE"), (89, u "T_BOOLEAN"), (2, u "T_CHAR"), (1, u "T_FLOAT"), (1, u "T_DOUBLE"), (1, u "T_BYTE"), (1, u "T_SHORT"), (1, u "T_INT"), (1, u "T_LONG"), (1, u "SOFT_MAX_ARRAY_LENGTH")] 83

def k13m0 : Method := { name := "<init>", desc := "()V", sig := { parameters := [], returnType := none }, accessFlags := 2, code := none }
/-- jdk/internal/util/ArraysSupport -/
def k13 : Class := { plain "jdk/internal/util/ArraysSupport" (some 0) with
  accessFlags := 33
  interfaces := #[]
  cf := some (fileOf pool13 21 #[] #[{ accessFlags := 2, nameIndex := 9, descriptorIndex := 19, attributes := #[] }] 33 16 #[] #[{ accessFlags := 24, nameIndex := 28, descriptorIndex := 29, attributes := #[] }, { accessFlags := 26, nameIndex := 38, descriptorIndex := 39, attributes := #[] }, { accessFlags := 25, nameIndex := 121, descriptorIndex := 25, attributes := #[] }, { accessFlags := 25, nameIndex := 131, descriptorIndex := 25, attributes := #[] }, { accessFlags := 25, nameIndex := 137, descriptorIndex := 25, attributes := #[] }, { accessFlags := 25, nameIndex := 143, descriptorIndex := 25, attributes := #[] }, { accessFlags := 25, nameIndex := 53, descriptorIndex := 25, attributes := #[] }, { accessFlags := 25, nameIndex := 24, descriptorIndex := 25, attributes := #[] }, { accessFlags := 25, nameIndex := 162, descriptorIndex := 25, attributes := #[] }, { accessFlags := 25, nameIndex := 187, descriptorIndex := 25, attributes := #[] }, { accessFlags := 26, nameIndex := 48, descriptorIndex := 25, attributes := #[] }, { accessFlags := 25, nameIndex := 277, descriptorIndex := 25, attributes := #[] }, { accessFlags := 25, nameIndex := 280, descriptorIndex := 25, attributes := #[] }, { accessFlags := 25, nameIndex := 282, descriptorIndex := 25, attributes := #[] }, { accessFlags := 25, nameIndex := 284, descriptorIndex := 25, attributes := #[] }, { accessFlags := 25, nameIndex := 286, descriptorIndex := 25, attributes := #[] }, { accessFlags := 25, nameIndex := 288, descriptorIndex := 25, attributes := #[] }, { accessFlags := 25, nameIndex := 290, descriptorIndex := 25, attributes := #[] }, { accessFlags := 25, nameIndex := 292, descriptorIndex := 25, attributes := #[] }, { accessFlags := 26, nameIndex := 108, descriptorIndex := 109, attributes := #[] }, { accessFlags := 25, nameIndex := 294, descriptorIndex := 25, attributes := #[] }])
  fields := #[{ name := "U", type := (.object "jdk/internal/misc/Unsafe"), accessFlags := 24, slot := 0, constantValue := 0 }, { name := "BIG_ENDIAN", type := .boolean, accessFlags := 26, slot := 1, constantValue := 0 }, { name := "LOG2_ARRAY_BOOLEAN_INDEX_SCALE", type := .int, accessFlags := 25, slot := 2, constantValue := 0 }, { name := "LOG2_ARRAY_BYTE_INDEX_SCALE", type := .int, accessFlags := 25, slot := 3, constantValue := 0 }, { name := "LOG2_ARRAY_CHAR_INDEX_SCALE", type := .int, accessFlags := 25, slot := 4, constantValue := 0 }, { name := "LOG2_ARRAY_SHORT_INDEX_SCALE", type := .int, accessFlags := 25, slot := 5, constantValue := 0 }, { name := "LOG2_ARRAY_INT_INDEX_SCALE", type := .int, accessFlags := 25, slot := 6, constantValue := 0 }, { name := "LOG2_ARRAY_LONG_INDEX_SCALE", type := .int, accessFlags := 25, slot := 7, constantValue := 0 }, { name := "LOG2_ARRAY_FLOAT_INDEX_SCALE", type := .int, accessFlags := 25, slot := 8, constantValue := 0 }, { name := "LOG2_ARRAY_DOUBLE_INDEX_SCALE", type := .int, accessFlags := 25, slot := 9, constantValue := 0 }, { name := "LOG2_BYTE_BIT_SIZE", type := .int, accessFlags := 26, slot := 10, constantValue := 0 }, { name := "T_BOOLEAN", type := .int, accessFlags := 25, slot := 11, constantValue := 0 }, { name := "T_CHAR", type := .int, accessFlags := 25, slot := 12, constantValue := 0 }, { name := "T_FLOAT", type := .int, accessFlags := 25, slot := 13, constantValue := 0 }, { name := "T_DOUBLE", type := .int, accessFlags := 25, slot := 14, constantValue := 0 }, { name := "T_BYTE", type := .int, accessFlags := 25, slot := 15, constantValue := 0 }, { name := "T_SHORT", type := .int, accessFlags := 25, slot := 16, constantValue := 0 }, { name := "T_INT", type := .int, accessFlags := 25, slot := 17, constantValue := 0 }, { name := "T_LONG", type := .int, accessFlags := 25, slot := 18, constantValue := 0 }, { name := "JLA", type := (.object "jdk/internal/access/JavaLangAccess"), accessFlags := 26, slot := 19, constantValue := 0 }, { name := "SOFT_MAX_ARRAY_LENGTH", type := .int, accessFlags := 25, slot := 20, constantValue := 0 }]
  methods := #[k13m0]
  instanceTypes := #[]
  staticTypes := #[(.object "jdk/internal/misc/Unsafe"), .boolean, .int, .int, .int, .int, .int, .int, .int, .int, .int, .int, .int, .int, .int, .int, .int, .int, .int, (.object "jdk/internal/access/JavaLangAccess"), .int]
  resolved := Array.replicate 378 none
  statics := none }

def pool14 : Array CpInfo := pool [(1, u "java/lang/Cloneable"), (0, .class_ 1), (0, u "java/lang/Object"), (0, .class_ 3)] 3

/-- java/lang/Cloneable -/
def k14 : Class := { plain "java/lang/Cloneable" (some 0) with
  accessFlags := 1537
  interfaces := #[]
  cf := some (fileOf pool14 2 #[] #[] 1537 4 #[] #[])
  fields := #[]
  methods := #[]
  instanceTypes := #[]
  staticTypes := #[]
  resolved := Array.replicate 8 none
  statics := none }

/-- the primitive byte -/
def k15 : Class := { plain "byte" none with kind := .primitive 'B', accessFlags := 0x411 }
/-- [B -/
def k16 : Class := { plain "[B" (some 0) with kind := .array 15 .byte, interfaces := #[14, 2], accessFlags := 1041 }

/-- the primitive char -/
def k17 : Class := { plain "char" none with kind := .primitive 'C', accessFlags := 0x411 }
/-- [C -/
def k18 : Class := { plain "[C" (some 0) with kind := .array 17 .char, interfaces := #[14, 2], accessFlags := 1041 }

/-- the primitive int -/
def k19 : Class := { plain "int" none with kind := .primitive 'I', accessFlags := 0x411 }
/-- [I -/
def k20 : Class := { plain "[I" (some 0) with kind := .array 19 .int, interfaces := #[14, 2], accessFlags := 1041 }

def heap : Heap := #[{ cls := 7, slots := #[.long 0, .int 1, .null, .int 0, .null, .int 0, .int 0], vm := .statics 7 },
  { cls := 12, slots := #[.null, .null, .null], vm := .statics 12 }]
def classes : Array Class := #[k0, k1, k2, k3, k4, k5, k6, k7, k8, k9, k10, k11, k12, k13, k14, k15, k16, k17, k18, k19, k20]
def interned : List (Array UInt16 × Addr) := []
def slotsUsed : Nat := 10
def theMethod : MethodId := ⟨1, 1⟩
def args0 : Array Value := #[.int 5, .long 7, .long 1, .long 2, .long 3]
def aboutOver (below : List Frame) : State where
  vm := { classes := classes, interned := interned.toArray }
  heap := heap
  slotsUsed := slotsUsed
  threads := #[{ frames := .invoking theMethod args0 :: below }]
def below0 : List Frame := [.native { method := ⟨0, 0⟩, args := #[] }]
def about1 : State := aboutOver below0
def p0 : Program := .bare "" "" ""
def e0 : Env := launch0.env 0 0 0
theorem w_frames : about1.frames = Frame.invoking theMethod args0 :: below0 := rfl
set_option maxRecDepth 65536 in
theorem w_args : argsFit about1.vm theMethod args0 = true := by decide +kernel
set_option maxRecDepth 65536 in
theorem w_heap : heapFits about1 = true := by decide +kernel
set_option maxRecDepth 65536 in
theorem w_runnable : about1.curStatus? = some .runnable := by decide +kernel
set_option maxRecDepth 65536 in
theorem w_alone : about1.alone = true := by decide +kernel
set_option maxRecDepth 65536 in
theorem w_named : about1.methodNamed? x = some theMethod := by decide +kernel
set_option maxRecDepth 65536 in
theorem w_hears : about1.hears theMethod below0 = true := by decide +kernel
set_option maxRecDepth 65536 in
theorem w_ripe : about1.ripe theMethod args0 below0 = true := by decide +kernel
theorem w_running : about1.status = .running := rfl
set_option maxRecDepth 65536 in
theorem w_room : about1.hasRoom e0.platform room_1 = true :=
  launch0.hasRoom_least _ room_1 (by decide +kernel) (by decide +kernel) (by decide +kernel) (by decide +kernel) (by decide +kernel) (by decide +kernel)
theorem allAtoms_all (ts : List Jvm.Cond) (a : Array Jvm.Value) (st : Jvm.State) : (allAtoms ts).before a st = ts.all (fun c => c.before a st) := by
  induction ts with
  | nil => rfl
  | cons c t ih =>
    show (Jvm.Cond.and c (allAtoms t)).before a st = _
    rw [Jvm.Cond.before_and, ih, List.all_cons]
def words1 : List Jvm.Cond := Jvm.Cond.code x code maxLocals ret :: tables_1
/-- a 'code' word, met by the world's own term for the bytes: nothing is compared byte by byte -/
theorem code_word {y : MethodName} {bytes : ByteArray} {mx : Nat} {rt : Option FieldType} {a : Array Value} {s : State} {m : MethodId} {meth : Method} {c : Code} (h1 : s.methodNamed? y = some m) (h2 : s.vm.method? m = some meth) (h3 : meth.code = some c) (h4 : c.code = bytes)
    (h5 : (c.maxLocals == mx && c.exceptionTable.isEmpty && decide (c.maxStack ≤ mostOperands) && decide (meth.sig.returnType = rt) && !meth.locks && decide (parseMethodDescriptor y.desc = some meth.sig)) = true) : (Jvm.Cond.code y bytes mx rt).before a s = true := by
  simp only [Bool.and_eq_true, beq_iff_eq, Bool.not_eq_true', decide_eq_true_eq] at h5
  obtain ⟨⟨⟨⟨⟨g1, g2⟩, g3⟩, g4⟩, g5⟩, g6⟩ := h5
  simp [Cond.before, Cond.holds, Cond.value, h1, h2, h3, h4, g1, g2, g3, g4, g5, g6]
def isCode : Jvm.Cond → Bool
  | .code _ _ _ _ => true
  | _ => false
theorem all_split {L : List Jvm.Cond} {P : Jvm.Cond → Bool} (h1 : L.all (fun c => isCode c || P c) = true) (h2 : ∀ c ∈ L.filter isCode, P c = true) : L.all P = true := by
  refine List.all_eq_true.mpr fun c hc => ?_
  have h := List.all_eq_true.mp h1 c hc
  rcases Bool.eq_false_or_eq_true (isCode c) with hi | hi
  · exact h2 c (List.mem_filter.mpr ⟨hc, hi⟩)
  · simpa [hi] using h
set_option maxRecDepth 65536 in
theorem w_c0 : (Jvm.Cond.code x code maxLocals ret).before args0 about1 = true := code_word (m := ⟨1, 1⟩) (meth := k1m1) (c := k1c1) (by decide +kernel) rfl rfl rfl (by decide +kernel)
set_option maxRecDepth 65536 in
theorem w_c1 : (Jvm.Cond.code ({ cls := "java/lang/String", name := "<init>", desc := "([C)V" } : Jvm.MethodName) jdk_42_method_3_code (2 : Nat) (Option.none : Option Jvm.ClassFile.FieldType)).before args0 about1 = true := code_word (m := ⟨7, 1⟩) (meth := k7m1) (c := k7c1) (by decide +kernel) rfl rfl rfl (by decide +kernel)
set_option maxRecDepth 65536 in
theorem w_c2 : (Jvm.Cond.code ({ cls := "java/lang/String", name := "<init>", desc := "([CIILjava/lang/Void;)V" } : Jvm.MethodName) jdk_42_method_149_code (6 : Nat) (Option.none : Option Jvm.ClassFile.FieldType)).before args0 about1 = true := code_word (m := ⟨7, 2⟩) (meth := k7m2) (c := k7c2) (by decide +kernel) rfl rfl rfl (by decide +kernel)
set_option maxRecDepth 65536 in
theorem w_c3 : (Jvm.Cond.code ({ cls := "java/lang/Object", name := "<init>", desc := "()V" } : Jvm.MethodName) object_method_1_code (1 : Nat) (Option.none : Option Jvm.ClassFile.FieldType)).before args0 about1 = true := code_word (m := ⟨0, 0⟩) (meth := k0m0) (c := k0c0) (by decide +kernel) rfl rfl rfl (by decide +kernel)
set_option maxRecDepth 65536 in
theorem w_c4 : (Jvm.Cond.code ({ cls := "java/lang/StringUTF16", name := "compress", desc := "([CII)[B" } : Jvm.MethodName) jdk_52_method_16_code (6 : Nat) (Option.some (Jvm.ClassFile.FieldType.array Jvm.ClassFile.FieldType.byte))).before args0 about1 = true := code_word (m := ⟨8, 2⟩) (meth := k8m2) (c := k8c2) (by decide +kernel) rfl rfl rfl (by decide +kernel)
set_option maxRecDepth 65536 in
theorem w_c5 : (Jvm.Cond.code ({ cls := "java/lang/StringUTF16", name := "compress", desc := "([CI[BII)I" } : Jvm.MethodName) jdk_52_method_21_code (7 : Nat) (Option.some Jvm.ClassFile.FieldType.int)).before args0 about1 = true := code_word (m := ⟨8, 3⟩) (meth := k8m3) (c := k8c3) (by decide +kernel) rfl rfl rfl (by decide +kernel)
set_option maxRecDepth 65536 in
theorem w_c6 : (Jvm.Cond.code ({ cls := "java/lang/StringUTF16", name := "coderFromArrayLen", desc := "([BI)B" } : Jvm.MethodName) jdk_52_method_15_code (2 : Nat) (Option.some Jvm.ClassFile.FieldType.byte)).before args0 about1 = true := code_word (m := ⟨8, 1⟩) (meth := k8m1) (c := k8c1) (by decide +kernel) rfl rfl rfl (by decide +kernel)
set_option maxRecDepth 65536 in
theorem w_c7 : (Jvm.Cond.code ({ cls := "com/example/fielder/fielder/ForwardState", name := "<init>", desc := "(Ljava/lang/String;JJJ)V" } : Jvm.MethodName) prog_5_method_1_code (8 : Nat) (Option.none : Option Jvm.ClassFile.FieldType)).before args0 about1 = true := code_word (m := ⟨10, 0⟩) (meth := k10m0) (c := k10c0) (by decide +kernel) rfl rfl rfl (by decide +kernel)
set_option maxRecDepth 65536 in
theorem w_c8 : (Jvm.Cond.code ({ cls := "java/lang/Record", name := "<init>", desc := "()V" } : Jvm.MethodName) jdk_30_method_1_code (1 : Nat) (Option.none : Option Jvm.ClassFile.FieldType)).before args0 about1 = true := code_word (m := ⟨9, 0⟩) (meth := k9m0) (c := k9c0) (by decide +kernel) rfl rfl rfl (by decide +kernel)
set_option maxRecDepth 65536 in
theorem w_c9 : (Jvm.Cond.code ({ cls := "com/example/fielder/fielder/ForwardState", name := "pastConflict", desc := "(J)Lcom/example/fielder/fielder/ForwardState;" } : Jvm.MethodName) prog_5_method_3_code (3 : Nat) (Option.some (Jvm.ClassFile.FieldType.object "com/example/fielder/fielder/ForwardState"))).before args0 about1 = true := code_word (m := ⟨10, 1⟩) (meth := k10m1) (c := k10c1) (by decide +kernel) rfl rfl rfl (by decide +kernel)
set_option maxRecDepth 65536 in
theorem w_c10 : (Jvm.Cond.code ({ cls := "com/example/fielder/fielder/ForwardState", name := "messagePrefix", desc := "()Ljava/lang/String;" } : Jvm.MethodName) prog_5_method_7_code (1 : Nat) (Option.some (Jvm.ClassFile.FieldType.object "java/lang/String"))).before args0 about1 = true := code_word (m := ⟨10, 2⟩) (meth := k10m2) (c := k10c2) (by decide +kernel) rfl rfl rfl (by decide +kernel)
set_option maxRecDepth 65536 in
theorem w_c11 : (Jvm.Cond.code ({ cls := "com/example/fielder/fielder/ForwardState", name := "refund", desc := "()J" } : Jvm.MethodName) prog_5_method_8_code (1 : Nat) (Option.some Jvm.ClassFile.FieldType.long)).before args0 about1 = true := code_word (m := ⟨10, 3⟩) (meth := k10m3) (c := k10c3) (by decide +kernel) rfl rfl rfl (by decide +kernel)
set_option maxRecDepth 65536 in
theorem w_c12 : (Jvm.Cond.code ({ cls := "com/example/fielder/fielder/ForwardState", name := "conflict", desc := "()J" } : Jvm.MethodName) prog_5_method_9_code (1 : Nat) (Option.some Jvm.ClassFile.FieldType.long)).before args0 about1 = true := code_word (m := ⟨10, 4⟩) (meth := k10m4) (c := k10c4) (by decide +kernel) rfl rfl rfl (by decide +kernel)
set_option maxRecDepth 65536 in
theorem w_c13 : (Jvm.Cond.code ({ cls := "com/example/fielder/fielder/ForwardState", name := "received", desc := "()J" } : Jvm.MethodName) prog_5_method_10_code (1 : Nat) (Option.some Jvm.ClassFile.FieldType.long)).before args0 about1 = true := code_word (m := ⟨10, 5⟩) (meth := k10m5) (c := k10c5) (by decide +kernel) rfl rfl rfl (by decide +kernel)
def codes1 : List Jvm.Cond := [Jvm.Cond.code x code maxLocals ret, Jvm.Cond.code ({ cls := "java/lang/String", name := "<init>", desc := "([C)V" } : Jvm.MethodName) jdk_42_method_3_code (2 : Nat) (Option.none : Option Jvm.ClassFile.FieldType), Jvm.Cond.code ({ cls := "java/lang/String", name := "<init>", desc := "([CIILjava/lang/Void;)V" } : Jvm.MethodName) jdk_42_method_149_code (6 : Nat) (Option.none : Option Jvm.ClassFile.FieldType), Jvm.Cond.code ({ cls := "java/lang/Object", name := "<init>", desc := "()V" } : Jvm.MethodName) object_method_1_code (1 : Nat) (Option.none : Option Jvm.ClassFile.FieldType), Jvm.Cond.code ({ cls := "java/lang/StringUTF16", name := "compress", desc := "([CII)[B" } : Jvm.MethodName) jdk_52_method_16_code (6 : Nat) (Option.some (Jvm.ClassFile.FieldType.array Jvm.ClassFile.FieldType.byte)), Jvm.Cond.code ({ cls := "java/lang/StringUTF16", name := "compress", desc := "([CI[BII)I" } : Jvm.MethodName) jdk_52_method_21_code (7 : Nat) (Option.some Jvm.ClassFile.FieldType.int), Jvm.Cond.code ({ cls := "java/lang/StringUTF16", name := "coderFromArrayLen", desc := "([BI)B" } : Jvm.MethodName) jdk_52_method_15_code (2 : Nat) (Option.some Jvm.ClassFile.FieldType.byte), Jvm.Cond.code ({ cls := "com/example/fielder/fielder/ForwardState", name := "<init>", desc := "(Ljava/lang/String;JJJ)V" } : Jvm.MethodName) prog_5_method_1_code (8 : Nat) (Option.none : Option Jvm.ClassFile.FieldType), Jvm.Cond.code ({ cls := "java/lang/Record", name := "<init>", desc := "()V" } : Jvm.MethodName) jdk_30_method_1_code (1 : Nat) (Option.none : Option Jvm.ClassFile.FieldType), Jvm.Cond.code ({ cls := "com/example/fielder/fielder/ForwardState", name := "pastConflict", desc := "(J)Lcom/example/fielder/fielder/ForwardState;" } : Jvm.MethodName) prog_5_method_3_code (3 : Nat) (Option.some (Jvm.ClassFile.FieldType.object "com/example/fielder/fielder/ForwardState")), Jvm.Cond.code ({ cls := "com/example/fielder/fielder/ForwardState", name := "messagePrefix", desc := "()Ljava/lang/String;" } : Jvm.MethodName) prog_5_method_7_code (1 : Nat) (Option.some (Jvm.ClassFile.FieldType.object "java/lang/String")), Jvm.Cond.code ({ cls := "com/example/fielder/fielder/ForwardState", name := "refund", desc := "()J" } : Jvm.MethodName) prog_5_method_8_code (1 : Nat) (Option.some Jvm.ClassFile.FieldType.long), Jvm.Cond.code ({ cls := "com/example/fielder/fielder/ForwardState", name := "conflict", desc := "()J" } : Jvm.MethodName) prog_5_method_9_code (1 : Nat) (Option.some Jvm.ClassFile.FieldType.long), Jvm.Cond.code ({ cls := "com/example/fielder/fielder/ForwardState", name := "received", desc := "()J" } : Jvm.MethodName) prog_5_method_10_code (1 : Nat) (Option.some Jvm.ClassFile.FieldType.long)]
set_option maxRecDepth 65536 in
theorem codes_eq : words1.filter isCode = codes1 := rfl
theorem w_codes : ∀ c ∈ words1.filter isCode, c.before args0 about1 = true := by
  rw [codes_eq]
  intro c hc
  simp only [codes1, List.mem_cons, List.not_mem_nil, or_false] at hc
  rcases hc with rfl | rfl | rfl | rfl | rfl | rfl | rfl | rfl | rfl | rfl | rfl | rfl | rfl | rfl
  · exact w_c0
  · exact w_c1
  · exact w_c2
  · exact w_c3
  · exact w_c4
  · exact w_c5
  · exact w_c6
  · exact w_c7
  · exact w_c8
  · exact w_c9
  · exact w_c10
  · exact w_c11
  · exact w_c12
  · exact w_c13
set_option maxRecDepth 65536 in
theorem w_t1 : (words1.take 24).all (fun c => isCode c || c.before args0 about1) = true := by decide +kernel
set_option maxRecDepth 65536 in
theorem w_t2 : ((words1.drop 24).take 24).all (fun c => isCode c || c.before args0 about1) = true := by decide +kernel
set_option maxRecDepth 65536 in
theorem w_t3 : (((words1.drop 24).drop 24).take 24).all (fun c => isCode c || c.before args0 about1) = true := by decide +kernel
set_option maxRecDepth 65536 in
theorem w_t4 : (((words1.drop 24).drop 24).drop 24).all (fun c => isCode c || c.before args0 about1) = true := by decide +kernel
theorem w_tables : (allAtoms (Jvm.Cond.code x code maxLocals ret :: tables_1)).before args0 about1 = true := by
  rw [allAtoms_all]
  show words1.all (fun c => c.before args0 about1) = true
  refine all_split ?_ w_codes
  rw [← List.take_append_drop 24 words1, List.all_append, w_t1, ← List.take_append_drop 24 (words1.drop 24), List.all_append, w_t2, ← List.take_append_drop 24 ((words1.drop 24).drop 24), List.all_append, w_t3, w_t4]
  rfl
set_option maxRecDepth 65536 in
theorem w_rest : rest_1_c.before args0 about1 = true := by decide +kernel
set_option maxRecDepth 65536 in
theorem w_case : (Jvm.Cond.and given_1 narrow_1).before args0 about1 = true := by decide +kernel
theorem w_applies : (headSpec (Jvm.Cond.code x code maxLocals ret :: tables_1) room_1).applies x e0.platform about1 = true :=
  (Spec.applies_iff w_frames).mpr ⟨w_running, w_runnable, w_alone, w_named, w_hears, w_ripe, w_room, w_tables⟩
theorem atStart : AtStart classFile x code maxLocals ret World_1 tables_1 room_1 Calls_1 rest_1 Pre_1 launch0 p0 e0 about1 theMethod args0 below0 :=
  ⟨lists_1, trivial, launch0.admits_env _ _ _, launch0.least_env, fairChoices_fair.cas, fairChoices_fair.clock, w_frames, w_args, w_heap, w_applies, trivial, w_rest, w_case⟩
end start1
theorem witness_1 : WitnessClaimed_1 := ⟨start1.p0, start1.e0, start1.about1, start1.theMethod, start1.args0, start1.below0, start1.atStart⟩
end Jvm.Pilot.@@N@@
