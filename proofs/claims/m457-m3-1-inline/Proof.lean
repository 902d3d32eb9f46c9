import JvmDerived
import JvmDerived.Pilot.@@N@@Statement
import JvmDerived.Pilot.@@N@@Code
set_option linter.unusedVariables false
set_option linter.unusedSimpArgs false
/- laws to paste: Road.backV (cut by pick.py; bodies as the Statement names them) -/
namespace Jvm.Pilot.@@N@@
namespace StrChars
open Jvm Sem ClassFile Op Lib Jvm.Stand Jvm.Free.XT Jvm.Free.ALB Jvm.Free.JM Jvm.Free
open Jvm.Lib.Cold (StaticIs)
/-- a char array whose places are chars -/
def Ch (a : Addr) (A : Cell) (U : State) : Prop := Arr .char a A U ∧ Typed .char A
theorem Ch.mv {a : Addr} {A : Cell} {U U' : State} (h : Ch a A U) (hal : U.vm.Alike U'.vm) (hh : U'.heap = U.heap) : Ch a A U' := ⟨h.1.mv hal hh, h.2⟩
theorem Ch.keep {a : Addr} {A : Cell} {U U' : State} (h : Ch a A U) (hal : U.vm.Alike U'.vm) (hk : U'.heap[a]? = some A) : Ch a A U' := ⟨h.1.keep hal hk, h.2⟩
/-- what place i of a char[]'s cell holds -/
def cv (A : Cell) (i : Nat) : Int32 := match A.slots[i]? with | some (.int x) => x | _ => 0
theorem Ch.get {a : Addr} {A : Cell} {U : State} (h : Ch a A U) {i : Nat} (hi : i < A.slots.size) : A.slots[i]? = some (.int (cv A i)) := by
  have e := Array.getElem?_eq_getElem hi
  have f := h.2 i _ e
  unfold cv; rw [e]
  generalize A.slots[i] = v at f
  cases v <;> simp [fits] at f ⊢
/-- the byte that i2b leaves of a char -/
def lo8 (x : Int32) : Int32 := x.toInt8.toInt32
theorem fits_lo8 (y : Int32) : fits .byte (.int (lo8 y)) = true := by
  have h1 := y.toInt8.le_toInt
  have h2 := y.toInt8.toInt_lt
  simp only [lo8, fits, Bool.and_eq_true, decide_eq_true_eq, Int32.le_iff_toInt_le, Int8.toInt_toInt32, show (-128 : Int32).toInt = -128 from by decide, show (127 : Int32).toInt = 127 from by decide]
  omega
/-- A' is A but that each place j of lo .. hi - 1 holds f j -/
def Laid (A A' : Cell) (lo hi : Nat) (f : Nat → Value) : Prop := A'.cls = A.cls ∧ A'.vm = A.vm ∧ A'.slots.size = A.slots.size ∧ ∀ i, A'.slots[i]? = if lo ≤ i ∧ i < hi then some (f i) else A.slots[i]?
theorem Laid.zero (A : Cell) (lo : Nat) (f : Nat → Value) : Laid A A lo (lo + 0) f := ⟨rfl, rfl, rfl, fun i => by rw [if_neg (by omega)]⟩
theorem Laid.step {A Ak : Cell} {lo k : Nat} {f : Nat → Value} {v : Value} (h : Laid A Ak lo k f) (hlo : lo ≤ k) (hk : k < Ak.slots.size) (hv : v = f k) : Laid A (Ak.setSlot k v) lo (k + 1) f := by
  refine ⟨h.1, h.2.1, by simpa [Cell.setSlot] using h.2.2.1, fun i => ?_⟩
  by_cases e : k = i
  · subst e; rw [Cell.slots_setSlot_self v hk, if_pos (by omega), hv]
  · rw [Cell.slots_setSlot_ne v e, h.2.2.2 i]
    by_cases q : lo ≤ i ∧ i < k
    · rw [if_pos q, if_pos (by omega)]
    · rw [if_neg q, if_neg (by omega)]
def U16 : String := "java/lang/StringUTF16"
namespace Cmp5
def yN : MethodName := ⟨"java/lang/StringUTF16", "compress", "([CI[BII)I"⟩
abbrev yB : ByteArray := jdk_52_method_21_code
theorem d0 : decode yB 0 = .ok (.iconst 0, 1) := by decide +kernel
theorem d1 : decode yB 1 = .ok (.istore 5, 2) := by decide +kernel
theorem d3 : decode yB 3 = .ok (.iload 5, 2) := by decide +kernel
theorem d5 : decode yB 5 = .ok (.iload 4, 2) := by decide +kernel
theorem d7 : decode yB 7 = .ok (.if_icmp (.ge) 37, 3) := by decide +kernel
theorem d10 : decode yB 10 = .ok (.aload_n 0, 1) := by decide +kernel
theorem d11 : decode yB 11 = .ok (.iload_n 1, 1) := by decide +kernel
theorem d12 : decode yB 12 = .ok (.caload, 1) := by decide +kernel
theorem d13 : decode yB 13 = .ok (.istore 6, 2) := by decide +kernel
theorem d15 : decode yB 15 = .ok (.iload 6, 2) := by decide +kernel
theorem d17 : decode yB 17 = .ok (.sipush 255, 3) := by decide +kernel
theorem d20 : decode yB 20 = .ok (.if_icmp (.le) 6, 3) := by decide +kernel
theorem d26 : decode yB 26 = .ok (.aload_n 2, 1) := by decide +kernel
theorem d27 : decode yB 27 = .ok (.iload_n 3, 1) := by decide +kernel
theorem d28 : decode yB 28 = .ok (.iload 6, 2) := by decide +kernel
theorem d30 : decode yB 30 = .ok (.i2b, 1) := by decide +kernel
theorem d31 : decode yB 31 = .ok (.bastore, 1) := by decide +kernel
theorem d32 : decode yB 32 = .ok (.iinc 1 1, 3) := by decide +kernel
theorem d35 : decode yB 35 = .ok (.iinc 3 1, 3) := by decide +kernel
theorem d38 : decode yB 38 = .ok (.iinc 5 1, 3) := by decide +kernel
theorem d41 : decode yB 41 = .ok (.goto (-38), 3) := by decide +kernel
theorem d44 : decode yB 44 = .ok (.iload 4, 2) := by decide +kernel
theorem d46 : decode yB 46 = .ok (.ireturn, 1) := by decide +kernel
def site : List Cond := []
def tab : Cond := tabOf yN yB 7 (some .int) site
def P (b : Addr) (A : Cell) (d : Addr) (B : Cell) (o q len : Nat) (args : Array Value) (s : State) : Prop := args = #[.ref b, .int (Int32.ofNat o), .ref d, .int (Int32.ofNat q), .int (Int32.ofNat len)] ∧ Ch b A s ∧ Arr .byte d B s ∧ b ≠ d ∧ o + len ≤ A.slots.size ∧ q + len ≤ B.slots.size ∧ ∀ i, i < len → ¬ 255 < cv A (o + i)
def E (b : Addr) (A : Cell) (d : Addr) (B : Cell) (o q len : Nat) (r : Option Value) (s u : State) : Prop := r = some (.int (Int32.ofNat len)) ∧ ∃ B', Put d B' s u ∧ Laid B B' q (q + len) (fun j => Value.int (lo8 (cv A (o + (j - q)))))
/-- no char of the range above 255: len; the places written hold each char's low byte -/
theorem law (l : Launch) (b : Addr) (A : Cell) (d : Addr) (B : Cell) (o q len : Nat) : Law l yN 5 5 0 0 yB 7 (some .int) site (P b A d B o q len) (E b A d B o q len) (copyLocs d q len) 0 0 := by
  refine Law.of_walk (plainFor_of_name (by decide +kernel)) (by decide +kernel) (by decide +kernel) (by decide) (fun _ _ h => by rw [h.1]; rfl) (fun _ U U' hal hh h => ⟨h.1, h.2.1.mv hal hh, h.2.2.1.mv hal hh, h.2.2.2⟩) (fun r U U' V V' h1 hal h2 h => ⟨h.1, h.2.elim fun B' q => ⟨B', q.1.mv h1 h2, q.2⟩⟩) ?_
  intro p e s m args below meth c s₁ X0 hexec hbytes hml hret hlk hnm hown hh0 W hP
  obtain ⟨rfl, hA, hB, hne, l1, l2, hp⟩ := hP
  have c1 : Steps p.tables e below (s₁.setTop (entryFrame m #[.ref b, .int (Int32.ofNat o), .ref d, .int (Int32.ofNat q), .int (Int32.ofNat len)] 7)) (s₁.setTop (mkF m 0 #[.val (.ref b), .val (.int (Int32.ofNat o)), .val (.ref d), .val (.int (Int32.ofNat q)), .val (.int (Int32.ofNat len)), .unset, .unset] [])) := entry rfl
  have hA0 := hA.1.mv X0.warmed.alike hh0
  have hB0 := hB.mv X0.warmed.alike hh0
  have a31 := hA.1.2.2.2
  have c2 : Steps p.tables e below (s₁.setTop (entryFrame m #[.ref b, .int (Int32.ofNat o), .ref d, .int (Int32.ofNat q), .int (Int32.ofNat len)] 7)) (s₁.setTop (mkF m 3 #[.val (.ref b), .val (.int (Int32.ofNat o)), .val (.ref d), .val (.int (Int32.ofNat q)), .val (.int (Int32.ofNat len)), .val (.int 0), .unset] [])) := c1.trans (by
    refine iconstV X0.here hexec rfl 0 (hb hbytes d0) (by decide) ?_
    refine XS.istore X0.here hexec rfl (hb hbytes d1) rfl rfl ?_
    exact Steps.refl _)
  have loop : ∀ (r i : Nat), i + r = len → ∀ (z : Slot), (z = .unset ∨ ∃ w, z = .val w ∧ w.category = 1) → ∀ (Tl : State) (Bk : Cell), Stand p l e { frames := 0, locals := 0, cells := 0, slots := 0 } s m #[.ref b, .int (Int32.ofNat o), .ref d, .int (Int32.ofNat q), .int (Int32.ofNat len)] below meth c Tl ([] ++ copyLocs d q i) 0 0 → Put d Bk s₁ Tl → Laid B Bk q (q + i) (fun j => Value.int (lo8 (cv A (o + (j - q))))) →
      Steps p.tables e below (s₁.setTop (entryFrame m #[.ref b, .int (Int32.ofNat o), .ref d, .int (Int32.ofNat q), .int (Int32.ofNat len)] 7)) (Tl.setTop (mkF m 3 #[.val (.ref b), .val (.int (Int32.ofNat (o + i))), .val (.ref d), .val (.int (Int32.ofNat (q + i))), .val (.int (Int32.ofNat len)), .val (.int (Int32.ofNat i)), z] [])) → ∃ (T' : State) (B' : Cell) (z' : Slot), Stand p l e { frames := 0, locals := 0, cells := 0, slots := 0 } s m #[.ref b, .int (Int32.ofNat o), .ref d, .int (Int32.ofNat q), .int (Int32.ofNat len)] below meth c T' ([] ++ copyLocs d q len) 0 0 ∧ Put d B' s₁ T' ∧ Laid B B' q (q + len) (fun j => Value.int (lo8 (cv A (o + (j - q))))) ∧
      Steps p.tables e below (s₁.setTop (entryFrame m #[.ref b, .int (Int32.ofNat o), .ref d, .int (Int32.ofNat q), .int (Int32.ofNat len)] 7)) (T'.setTop (mkF m 3 #[.val (.ref b), .val (.int (Int32.ofNat (o + len))), .val (.ref d), .val (.int (Int32.ofNat (q + len))), .val (.int (Int32.ofNat len)), .val (.int (Int32.ofNat len)), z'] [])) := by
    intro r
    induction r with
    | zero =>
      intro i hi z hz Tl Bk Xl pl fl cl
      have hil : i = len := by omega
      rw [hil] at Xl fl cl
      exact ⟨Tl, Bk, z, Xl, pl, fl, cl⟩
    | succ r ih =>
      intro i hi z hz Tl Bk Xl pl fl cl
      have all := X0.warmed.alike.symm.trans Xl.warmed.alike
      have hAl := hA0.keep all (pl.other hne hA0.1)
      have hBk := hB0.like all pl.1 fl.1 fl.2.1 fl.2.2.1
      have hlt : q + i < Bk.slots.size := by rw [fl.2.2.1]; omega
      have c3 : Steps p.tables e below (s₁.setTop (entryFrame m #[.ref b, .int (Int32.ofNat o), .ref d, .int (Int32.ofNat q), .int (Int32.ofNat len)] 7)) (Tl.setTop (mkF m 12 #[.val (.ref b), .val (.int (Int32.ofNat (o + i))), .val (.ref d), .val (.int (Int32.ofNat (q + i))), .val (.int (Int32.ofNat len)), .val (.int (Int32.ofNat i)), z] [.int (Int32.ofNat (o + i)), .ref b])) := cl.trans (by
        refine XS.iload Xl.here hexec rfl (hb hbytes d3) rfl ?_
        refine XS.iload Xl.here hexec rfl (hb hbytes d5) rfl ?_
        refine XS.icmpNo Xl.here hexec rfl (hb hbytes d7) rfl (ii_ge_f (lt32 (by omega) (by omega))) ?_
        refine XS.aloadN Xl.here hexec rfl (hb hbytes d10) rfl rfl ?_
        refine XS.iloadN Xl.here hexec rfl (hb hbytes d11) rfl ?_
        exact Steps.refl _)
      have c4 : Steps p.tables e below (s₁.setTop (entryFrame m #[.ref b, .int (Int32.ofNat o), .ref d, .int (Int32.ofNat q), .int (Int32.ofNat len)] 7)) (Tl.setTop (mkF m 13 #[.val (.ref b), .val (.int (Int32.ofNat (o + i))), .val (.ref d), .val (.int (Int32.ofNat (q + i))), .val (.int (Int32.ofNat len)), .val (.int (Int32.ofNat i)), z] [.int (cv A (o + i))])) := c3.trans (by
        refine Xl.aget hexec hAl rfl (hA.get (i := o + i) (by omega)) rfl rfl (hb hbytes d12) ?_
        exact Steps.refl _)
      have c5 : Steps p.tables e below (s₁.setTop (entryFrame m #[.ref b, .int (Int32.ofNat o), .ref d, .int (Int32.ofNat q), .int (Int32.ofNat len)] 7)) (Tl.setTop (mkF m 15 #[.val (.ref b), .val (.int (Int32.ofNat (o + i))), .val (.ref d), .val (.int (Int32.ofNat (q + i))), .val (.int (Int32.ofNat len)), .val (.int (Int32.ofNat i)), .val (.int (cv A (o + i)))] [])) := c4.trans (by
        refine XS.istoreS Xl.here hexec rfl (hb hbytes d13) rfl rfl hz ?_
        exact Steps.refl _)
      have c6 : Steps p.tables e below (s₁.setTop (entryFrame m #[.ref b, .int (Int32.ofNat o), .ref d, .int (Int32.ofNat q), .int (Int32.ofNat len)] 7)) (Tl.setTop (mkF m 31 #[.val (.ref b), .val (.int (Int32.ofNat (o + i))), .val (.ref d), .val (.int (Int32.ofNat (q + i))), .val (.int (Int32.ofNat len)), .val (.int (Int32.ofNat i)), .val (.int (cv A (o + i)))] [.int (lo8 (cv A (o + i))), .int (Int32.ofNat (q + i)), .ref d])) := c5.trans (by
        refine XS.iload Xl.here hexec rfl (hb hbytes d15) rfl ?_
        refine sipushV Xl.here hexec rfl 255 (hb hbytes d17) (by decide) ?_
        refine XS.icmpYes Xl.here hexec rfl (pc0 := 20) rfl (hb hbytes d20) rfl (ii_le_t (hp i (by omega))) (by decide) rfl ?_
        refine XS.aloadN Xl.here hexec rfl (hb hbytes d26) rfl rfl ?_
        refine XS.iloadN Xl.here hexec rfl (hb hbytes d27) rfl ?_
        refine XS.iload Xl.here hexec rfl (hb hbytes d28) rfl ?_
        refine i2b Xl.here hexec rfl (hb hbytes d30) rfl ?_
        exact Steps.refl _)
      obtain ⟨T7, X7, p7, st7⟩ := Xl.aput hexec hBk rfl hlt rfl (fits_lo8 (cv A (o + i))) (g := (mkF m 31 #[.val (.ref b), .val (.int (Int32.ofNat (o + i))), .val (.ref d), .val (.int (Int32.ofNat (q + i))), .val (.int (Int32.ofNat len)), .val (.int (Int32.ofNat i)), .val (.int (cv A (o + i)))] [.int (lo8 (cv A (o + i))), .int (Int32.ofNat (q + i)), .ref d])) rfl (rest := []) rfl (hb hbytes d31)
      have c8 : Steps p.tables e below (s₁.setTop (entryFrame m #[.ref b, .int (Int32.ofNat o), .ref d, .int (Int32.ofNat q), .int (Int32.ofNat len)] 7)) (T7.setTop (mkF m 32 #[.val (.ref b), .val (.int (Int32.ofNat (o + i))), .val (.ref d), .val (.int (Int32.ofNat (q + i))), .val (.int (Int32.ofNat len)), .val (.int (Int32.ofNat i)), .val (.int (cv A (o + i)))] [])) := c6.trans (st7 _ (Steps.refl _))
      have c9 : Steps p.tables e below (s₁.setTop (entryFrame m #[.ref b, .int (Int32.ofNat o), .ref d, .int (Int32.ofNat q), .int (Int32.ofNat len)] 7)) (T7.setTop (mkF m 3 #[.val (.ref b), .val (.int (Int32.ofNat (o + i) + 1)), .val (.ref d), .val (.int (Int32.ofNat (q + i) + 1)), .val (.int (Int32.ofNat len)), .val (.int (Int32.ofNat i + 1)), .val (.int (cv A (o + i)))] [])) := c8.trans (by
        refine iincV X7.here hexec rfl 1 (hb hbytes d32) (by decide) rfl rfl ?_
        refine iincV X7.here hexec rfl 1 (hb hbytes d35) (by decide) rfl rfl ?_
        refine iincV X7.here hexec rfl 1 (hb hbytes d38) (by decide) rfl rfl ?_
        refine XS.goto X7.here hexec rfl (pc0 := 41) rfl (hb hbytes d41) (by decide) rfl ?_
        exact Steps.refl _)
      have c10 : Steps p.tables e below (s₁.setTop (entryFrame m #[.ref b, .int (Int32.ofNat o), .ref d, .int (Int32.ofNat q), .int (Int32.ofNat len)] 7)) (T7.setTop (mkF m 3 #[.val (.ref b), .val (.int (Int32.ofNat (o + (i + 1)))), .val (.ref d), .val (.int (Int32.ofNat (q + (i + 1)))), .val (.int (Int32.ofNat len)), .val (.int (Int32.ofNat (i + 1))), .val (.int (cv A (o + i)))] [])) := by
        have := c9
        rw [succ32, succ32, succ32] at this
        exact this
      exact ih (i + 1) (by omega) _ (Or.inr ⟨_, rfl, rfl⟩) T7 _ (by rw [copyLocs_step, ← List.append_assoc]; exact X7) (pl.trans p7) (fl.step (by omega) hlt (by simp)) c10
  obtain ⟨T9, B9, z9, X9, p9, f9, g9⟩ := loop len 0 (by omega) .unset (Or.inl rfl) s₁ B (by simpa [copyLocs] using X0) ⟨hB0.1, fun _ _ => rfl, rfl⟩ (Laid.zero _ _ _) c2
  have c11 : Steps p.tables e below (s₁.setTop (entryFrame m #[.ref b, .int (Int32.ofNat o), .ref d, .int (Int32.ofNat q), .int (Int32.ofNat len)] 7)) (T9.setTop (mkF m 46 #[.val (.ref b), .val (.int (Int32.ofNat (o + len))), .val (.ref d), .val (.int (Int32.ofNat (q + len))), .val (.int (Int32.ofNat len)), .val (.int (Int32.ofNat len)), z9] [.int (Int32.ofNat len)])) := g9.trans (by
    refine XS.iload X9.here hexec rfl (hb hbytes d3) rfl ?_
    refine XS.iload X9.here hexec rfl (hb hbytes d5) rfl ?_
    refine XS.icmpYes X9.here hexec rfl (pc0 := 7) rfl (hb hbytes d7) rfl (ii_ge_t (nlt32 (by omega) (Nat.le_refl _))) (by decide) rfl ?_
    refine XS.iload X9.here hexec rfl (hb hbytes d44) rfl ?_
    exact Steps.refl _)
  exact ⟨T9, some (.int (Int32.ofNat len)), _, _, _, X9, by simp, rfl, rfl, (fun h => by cases h), ⟨rfl, B9, p9.from hh0, f9⟩, fun fs hl => c11.trans (X9.ireturnOut hexec hret rfl (Or.inl rfl) (hb hbytes d46) hl)⟩
end Cmp5
namespace Cmp3
def yN : MethodName := ⟨"java/lang/StringUTF16", "compress", "([CII)[B"⟩
abbrev yB : ByteArray := jdk_52_method_16_code
theorem d0 : decode yB 0 = .ok (.iload_n 2, 1) := by decide +kernel
theorem d1 : decode yB 1 = .ok (.newarray .byte, 2) := by decide +kernel
theorem d3 : decode yB 3 = .ok (.astore_n 3, 1) := by decide +kernel
theorem d4 : decode yB 4 = .ok (.aload_n 0, 1) := by decide +kernel
theorem d5 : decode yB 5 = .ok (.iload_n 1, 1) := by decide +kernel
theorem d6 : decode yB 6 = .ok (.aload_n 3, 1) := by decide +kernel
theorem d7 : decode yB 7 = .ok (.iconst 0, 1) := by decide +kernel
theorem d8 : decode yB 8 = .ok (.iload_n 2, 1) := by decide +kernel
theorem d9 : decode yB 9 = .ok (.invokestatic 115, 3) := by decide +kernel
theorem d12 : decode yB 12 = .ok (.istore 4, 2) := by decide +kernel
theorem d14 : decode yB 14 = .ok (.iload 4, 2) := by decide +kernel
theorem d16 : decode yB 16 = .ok (.iload_n 2, 1) := by decide +kernel
theorem d17 : decode yB 17 = .ok (.if_icmp (.eq) 40, 3) := by decide +kernel
theorem d57 : decode yB 57 = .ok (.aload_n 3, 1) := by decide +kernel
theorem d58 : decode yB 58 = .ok (.areturn, 1) := by decide +kernel
def site : List Cond := [.arrayClass .byte, Cmp5.tab] ++ staticW U16 115 Cmp5.yN
def tab : Cond := tabOf yN yB 6 (some (.array .byte)) site
def P (b : Addr) (A : Cell) (o len : Nat) (args : Array Value) (s : State) : Prop := args = #[.ref b, .int (Int32.ofNat o), .int (Int32.ofNat len)] ∧ Ch b A s ∧ o + len ≤ A.slots.size ∧ len ≤ 536870912 ∧ ∀ i, i < len → ¬ 255 < cv A (o + i)
def E (b : Addr) (A : Cell) (o len : Nat) (r : Option Value) (s u : State) : Prop := NewArr .byte "[B" len (fun j => .int (lo8 (cv A (o + j)))) r s u ∧ u.heap.size = s.heap.size + 1
/-- no char of the range above 255: a new byte[] of their low bytes -/
theorem law (l : Launch) (b : Addr) (A : Cell) (o len : Nat) : Law l yN 3 3 1 18 yB 6 (some (.array .byte)) site (P b A o len) (E b A o len) [] 1 len := by
  refine Law.of_walk (plainFor_of_name (by decide +kernel)) (by decide +kernel) (by decide +kernel) (by decide) (fun _ _ h => by rw [h.1]; rfl) (fun _ U U' hal hh h => ⟨h.1, h.2.1.mv hal hh, h.2.2⟩) (fun r U U' V V' h1 hal h2 h => ⟨NewArr.mv r U U' V V' h1 hal h2 h.1, by rw [h1, h2]; exact h.2⟩) ?_
  intro p e s m args below meth c s₁ X0 hexec hbytes hml hret hlk hnm hown hh0 W hP
  obtain ⟨rfl, hA, l1, l2, hp⟩ := hP
  have a31 := hA.1.2.2.2
  have c1 : Steps p.tables e below (s₁.setTop (entryFrame m #[.ref b, .int (Int32.ofNat o), .int (Int32.ofNat len)] 6)) (s₁.setTop (mkF m 0 #[.val (.ref b), .val (.int (Int32.ofNat o)), .val (.int (Int32.ofNat len)), .unset, .unset, .unset] [])) := entry rfl
  have c2 : Steps p.tables e below (s₁.setTop (entryFrame m #[.ref b, .int (Int32.ofNat o), .int (Int32.ofNat len)] 6)) (s₁.setTop (mkF m 1 #[.val (.ref b), .val (.int (Int32.ofNat o)), .val (.int (Int32.ofNat len)), .unset, .unset, .unset] [.int (Int32.ofNat len)])) := c1.trans (by
    refine XS.iloadN X0.here hexec rfl (hb hbytes d0) rfl ?_
    exact Steps.refl _)
  obtain ⟨T3, B3, X3, ba3, bs3, bv3, bh3, bf3, st3⟩ := X0.anew hexec (atype := .byte) (wk W (.arrayClass .byte)) rfl (by show len * 1 ≤ _; omega) (by omega) (g := (mkF m 1 #[.val (.ref b), .val (.int (Int32.ofNat o)), .val (.int (Int32.ofNat len)), .unset, .unset, .unset] [.int (Int32.ofNat len)])) rfl (hb hbytes d1) (rest := []) rfl (Nat.le_refl _) (by show 0 + len ≤ len; omega)
  rw [hh0] at ba3 st3
  have kp3 : XT.Kept s T3 := (XT.Kept.of_eq hh0).push bh3
  have hA3 := hA.keep X3.warmed.alike (kp3 _ _ hA.1.1)
  have hne : b ≠ s.heap.size := hA.1.ne
  have c4 : Steps p.tables e below (s₁.setTop (entryFrame m #[.ref b, .int (Int32.ofNat o), .int (Int32.ofNat len)] 6)) (T3.setTop (mkF m 3 #[.val (.ref b), .val (.int (Int32.ofNat o)), .val (.int (Int32.ofNat len)), .unset, .unset, .unset] [.ref s.heap.size])) := c2.trans (st3 _ (Steps.refl _))
  have c5 : Steps p.tables e below (s₁.setTop (entryFrame m #[.ref b, .int (Int32.ofNat o), .int (Int32.ofNat len)] 6)) (T3.setTop (mkF m 9 #[.val (.ref b), .val (.int (Int32.ofNat o)), .val (.int (Int32.ofNat len)), .val (.ref s.heap.size), .unset, .unset] [.int (Int32.ofNat len), .int 0, .ref s.heap.size, .int (Int32.ofNat o), .ref b])) := c4.trans (by
    refine XS.astoreN X3.here hexec rfl (hb hbytes d3) rfl rfl rfl ?_
    refine XS.aloadN X3.here hexec rfl (hb hbytes d4) rfl rfl ?_
    refine XS.iloadN X3.here hexec rfl (hb hbytes d5) rfl ?_
    refine XS.aloadN X3.here hexec rfl (hb hbytes d6) rfl rfl ?_
    refine iconstV X3.here hexec rfl 0 (hb hbytes d7) (by decide) ?_
    refine XS.iloadN X3.here hexec rfl (hb hbytes d8) rfl ?_
    exact Steps.refl _)
  obtain ⟨v6, T6, X6, E6, g6⟩ := X3.callS hexec (Cmp5.law l b A s.heap.size B3 o 0 len) hown (wks W (staticW U16 115 Cmp5.yN)) (wk W Cmp5.tab) (W := 0) (Nat.le_of_ble_eq_true rfl) (Nat.le_of_ble_eq_true rfl) (Nat.le_refl _) (by show 0 + len + 0 ≤ len; omega) (g := (mkF m 9 #[.val (.ref b), .val (.int (Int32.ofNat o)), .val (.int (Int32.ofNat len)), .val (.ref s.heap.size), .unset, .unset] [.int (Int32.ofNat len), .int (Int32.ofNat 0), .ref s.heap.size, .int (Int32.ofNat o), .ref b])) rfl (by rw [hml]; rfl) c5 (argsL := [.ref b, .int (Int32.ofNat o), .ref s.heap.size, .int (Int32.ofNat 0), .int (Int32.ofNat len)]) (rest := []) rfl rfl (by show 2 * 0 + 0 ≤ _; decide) (hb hbytes d9) (⟨rfl, hA3, ba3, hne, l1, by rw [bs3]; simp, hp⟩)
  obtain ⟨rfl, B6, p6, f6⟩ := E6
  have c7 : Steps p.tables e below (s₁.setTop (entryFrame m #[.ref b, .int (Int32.ofNat o), .int (Int32.ofNat len)] 6)) (T6.setTop (mkF m 12 #[.val (.ref b), .val (.int (Int32.ofNat o)), .val (.int (Int32.ofNat len)), .val (.ref s.heap.size), .unset, .unset] [.int (Int32.ofNat len)])) := g6
  have c8 : Steps p.tables e below (s₁.setTop (entryFrame m #[.ref b, .int (Int32.ofNat o), .int (Int32.ofNat len)] 6)) (T6.setTop (mkF m 58 #[.val (.ref b), .val (.int (Int32.ofNat o)), .val (.int (Int32.ofNat len)), .val (.ref s.heap.size), .val (.int (Int32.ofNat len)), .unset] [.ref s.heap.size])) := c7.trans (by
    refine XS.istore X6.here hexec rfl (hb hbytes d12) rfl rfl ?_
    refine XS.iload X6.here hexec rfl (hb hbytes d14) rfl ?_
    refine XS.iloadN X6.here hexec rfl (hb hbytes d16) rfl ?_
    refine XS.icmpYes X6.here hexec rfl (pc0 := 17) rfl (hb hbytes d17) rfl (ii_eq_t rfl) (by decide) rfl ?_
    refine XS.aloadN X6.here hexec rfl (hb hbytes d57) rfl rfl ?_
    exact Steps.refl _)
  have X8 := X6.wide (L' := []) (cells' := 1) (slots' := len) (fun x hx hlt => by
    simp only [List.nil_append, copyLocs, List.mem_map, List.mem_range] at hx
    obtain ⟨i, -, rfl⟩ := hx
    exact absurd hlt (Nat.lt_irrefl _)) (Nat.le_refl _) (by omega)
  exact ⟨T6, some (.ref s.heap.size), _, _, _, X8, rfl, rfl, rfl, (fun h => by cases h), ⟨⟨rfl, B6, ba3.like (X3.warmed.alike.symm.trans X6.warmed.alike) p6.1 f6.1 f6.2.1 f6.2.2.1, f6.2.1.trans bv3, by rw [X6.warmed.alike.findClass, f6.1]; exact bf3, by rw [f6.2.2.1, bs3]; simp, fun j hj => by rw [f6.2.2.2 j, if_pos (by omega)]; rfl, kp3.put p6 (Nat.le_refl _)⟩, by rw [p6.2.2, bh3, hh0]; simp⟩, fun fs hl => c8.trans (X8.areturnOut hexec rfl hret rfl (hb hbytes d58) hl)⟩
end Cmp3
namespace CodL
def yN : MethodName := ⟨"java/lang/StringUTF16", "coderFromArrayLen", "([BI)B"⟩
abbrev yB : ByteArray := jdk_52_method_15_code
theorem d0 : decode yB 0 = .ok (.iload_n 1, 1) := by decide +kernel
theorem d1 : decode yB 1 = .ok (.aload_n 0, 1) := by decide +kernel
theorem d2 : decode yB 2 = .ok (.arraylength, 1) := by decide +kernel
theorem d3 : decode yB 3 = .ok (.isub, 1) := by decide +kernel
theorem d4 : decode yB 4 = .ok (.bipush 31, 2) := by decide +kernel
theorem d6 : decode yB 6 = .ok (.iushr, 1) := by decide +kernel
theorem d7 : decode yB 7 = .ok (.i2b, 1) := by decide +kernel
theorem d8 : decode yB 8 = .ok (.ireturn, 1) := by decide +kernel
def site : List Cond := []
def tab : Cond := tabOf yN yB 2 (some .byte) site
def P (d : Addr) (B : Cell) (args : Array Value) (s : State) : Prop := args = #[.ref d, .int (Int32.ofNat B.slots.size)] ∧ Arr .byte d B s
def E (r : Option Value) (s u : State) : Prop := XT.PureE (some (.int 0)) r s u
/-- an array as long as the number of chars: LATIN1 -/
theorem law (l : Launch) (d : Addr) (B : Cell) : Law l yN 2 2 0 0 yB 2 (some .byte) site (P d B) E [] 0 0 := by
  refine Law.of_walk (plainFor_of_name (by decide +kernel)) (by decide +kernel) (by decide +kernel) (by decide) (fun _ _ h => by rw [h.1]; rfl) (fun _ U U' hal hh h => ⟨h.1, h.2.mv hal hh⟩) (fun r U U' V V' h1 hal h2 h => XT.PureE.mv r U U' V V' h1 hal h2 h) ?_
  intro p e s m args below meth c s₁ X0 hexec hbytes hml hret hlk hnm hown hh0 W hP
  obtain ⟨rfl, hB⟩ := hP
  have hB0 := hB.mv X0.warmed.alike hh0
  have c1 : Steps p.tables e below (s₁.setTop (entryFrame m #[.ref d, .int (Int32.ofNat B.slots.size)] 2)) (s₁.setTop (mkF m 0 #[.val (.ref d), .val (.int (Int32.ofNat B.slots.size))] [])) := entry rfl
  have c2 : Steps p.tables e below (s₁.setTop (entryFrame m #[.ref d, .int (Int32.ofNat B.slots.size)] 2)) (s₁.setTop (mkF m 2 #[.val (.ref d), .val (.int (Int32.ofNat B.slots.size))] [.ref d, .int (Int32.ofNat B.slots.size)])) := c1.trans (by
    refine XS.iloadN X0.here hexec rfl (hb hbytes d0) rfl ?_
    refine XS.aloadN X0.here hexec rfl (hb hbytes d1) rfl rfl ?_
    exact Steps.refl _)
  have c3 : Steps p.tables e below (s₁.setTop (entryFrame m #[.ref d, .int (Int32.ofNat B.slots.size)] 2)) (s₁.setTop (mkF m 8 #[.val (.ref d), .val (.int (Int32.ofNat B.slots.size))] [.int (lo8 (ushr (Int32.ofNat B.slots.size - Int32.ofNat B.slots.size) 31))])) := c2.trans (by
    refine X0.alen hexec hB0 rfl rfl (hb hbytes d2) ?_
    refine XS.isub X0.here hexec rfl (hb hbytes d3) rfl ?_
    refine bipushV X0.here hexec rfl 31 (hb hbytes d4) (by decide) ?_
    refine iushr X0.here hexec rfl (hb hbytes d6) rfl ?_
    refine i2b X0.here hexec rfl (hb hbytes d7) rfl ?_
    exact Steps.refl _)
  have e0 : lo8 (ushr (Int32.ofNat B.slots.size - Int32.ofNat B.slots.size) 31) = 0 := by rw [Int32.sub_self]; decide
  rw [e0] at c3
  exact ⟨s₁, some (.int 0), _, _, _, X0, rfl, rfl, rfl, (fun h => by cases h), ⟨rfl, hh0⟩, fun fs hl => c3.trans (X0.ireturnOut hexec hret rfl (Or.inr (Or.inr (Or.inl rfl))) (hb hbytes d8) hl)⟩
end CodL
/-- the String at a is Latin-1 over a new byte[] (the heap's one new cell): the low bytes of the len chars of A from o on; every cell but a is kept -/
def Got (a : Addr) (D : Cell) (fV fC : Field) (A : Cell) (o len : Nat) (r : Option Value) (s u : State) : Prop := r = none ∧ ∃ D' V : Cell, Blank "java/lang/String" a D' u ∧ Same D D' [fV.slot, fC.slot] ∧ D'.slots[fV.slot]? = some (.ref s.heap.size) ∧ D'.slots[fC.slot]? = some (.int 0) ∧ Arr .byte s.heap.size V u ∧ V.vm = .none ∧ u.vm.findClass "[B" = some V.cls ∧ V.slots.size = len ∧ (∀ j, j < len → V.slots[j]? = some (.int (lo8 (cv A (o + j))))) ∧ (∀ (y : Addr) (c : Cell), y ≠ a → s.heap[y]? = some c → u.heap[y]? = some c) ∧ u.heap.size = s.heap.size + 1
theorem Got.mv {a : Addr} {D A : Cell} {fV fC : Field} {o len : Nat} : ∀ r (U U' V V' : State), U'.heap = U.heap → V.vm.Alike V'.vm → V'.heap = V.heap → Got a D fV fC A o len r U V → Got a D fV fC A o len r U' V' :=
  fun r U U' V V' h1 hal h2 ⟨e0, D', X, a1, a2, a3, a4, a5, a6, a7, a8, a9, a10, a11⟩ => ⟨e0, D', X, a1.mv hal h2, a2, by rw [h1]; exact a3, a4, by rw [h1]; exact a5.mv hal h2, a6, by rw [hal.findClass]; exact a7, a8, a9, by rw [h1, h2]; exact a10, by rw [h1, h2]; exact a11⟩
namespace New4
def yN : MethodName := ⟨"java/lang/String", "<init>", "([CIILjava/lang/Void;)V"⟩
abbrev yB : ByteArray := jdk_42_method_149_code
theorem d0 : decode yB 0 = .ok (.aload_n 0, 1) := by decide +kernel
theorem d1 : decode yB 1 = .ok (.invokespecial 1, 3) := by decide +kernel
theorem d4 : decode yB 4 = .ok (.iload_n 3, 1) := by decide +kernel
theorem d5 : decode yB 5 = .ok (.ifCond (.ne) 22, 3) := by decide +kernel
theorem d27 : decode yB 27 = .ok (.getstatic 38, 3) := by decide +kernel
theorem d30 : decode yB 30 = .ok (.ifCond (.eq) 28, 3) := by decide +kernel
theorem d33 : decode yB 33 = .ok (.aload_n 1, 1) := by decide +kernel
theorem d34 : decode yB 34 = .ok (.iload_n 2, 1) := by decide +kernel
theorem d35 : decode yB 35 = .ok (.iload_n 3, 1) := by decide +kernel
theorem d36 : decode yB 36 = .ok (.invokestatic 177, 3) := by decide +kernel
theorem d39 : decode yB 39 = .ok (.astore 5, 2) := by decide +kernel
theorem d41 : decode yB 41 = .ok (.aload_n 0, 1) := by decide +kernel
theorem d42 : decode yB 42 = .ok (.aload 5, 2) := by decide +kernel
theorem d44 : decode yB 44 = .ok (.iload_n 3, 1) := by decide +kernel
theorem d45 : decode yB 45 = .ok (.invokestatic 47, 3) := by decide +kernel
theorem d48 : decode yB 48 = .ok (.putfield 15, 3) := by decide +kernel
theorem d51 : decode yB 51 = .ok (.aload_n 0, 1) := by decide +kernel
theorem d52 : decode yB 52 = .ok (.aload 5, 2) := by decide +kernel
theorem d54 : decode yB 54 = .ok (.putfield 9, 3) := by decide +kernel
theorem d57 : decode yB 57 = .ok (.return_, 1) := by decide +kernel
def site : List Cond := [.fieldLink "java/lang/String" 38 "java/lang/String" "COMPACT_STRINGS" "Z", Cmp3.tab, CodL.tab, .laysFinal "java/lang/String" "java/lang/String" "value" "[B", .fieldLink "java/lang/String" 9 "java/lang/String" "value" "[B", .laysFinal "java/lang/String" "java/lang/String" "coder" "B", .fieldLink "java/lang/String" 15 "java/lang/String" "coder" "B"] ++ objW "java/lang/String" 1 ++ staticW "java/lang/String" 177 Cmp3.yN ++ staticW "java/lang/String" 47 CodL.yN
def tab : Cond := tabOf yN yB 6 none site
def P (a : Addr) (D : Cell) (fV fC : Field) (b : Addr) (A : Cell) (z : Int32) (o len : Nat) (args : Array Value) (s : State) : Prop := args = #[.ref a, .ref b, .int (Int32.ofNat o), .int (Int32.ofNat len), .null] ∧ Blank "java/lang/String" a D s ∧ Found "java/lang/String" "value" "[B" fV s ∧ Found "java/lang/String" "coder" "B" fC s ∧ Ch b A s ∧ StaticIs s "java/lang/String" "COMPACT_STRINGS" "Z" (.int z) ∧ ¬ z = 0 ∧ 0 < len ∧ o + len ≤ A.slots.size ∧ len ≤ 536870912 ∧ ∀ i, i < len → ¬ 255 < cv A (o + i)
def E (a : Addr) (D : Cell) (fV fC : Field) (A : Cell) (o len : Nat) (r : Option Value) (s u : State) : Prop := Got a D fV fC A o len r s u
/-- len > 0, no char of the range above 255: a Latin-1 String of their low bytes -/
theorem law (l : Launch) (a : Addr) (D : Cell) (fV fC : Field) (b : Addr) (A : Cell) (z : Int32) (o len : Nat) : Law l yN 5 4 2 35 yB 6 none site (P a D fV fC b A z o len) (E a D fV fC A o len) [⟨a, fC.slot⟩, ⟨a, fV.slot⟩] 1 len := by
  refine Law.of_walk (plainFor_of_name (by decide +kernel)) (by decide +kernel) (by decide +kernel) (by decide) (fun _ _ h => by rw [h.1]; rfl) (fun _ U U' hal hh h => ⟨h.1, h.2.1.mv hal hh, h.2.2.1.al hal, h.2.2.2.1.al hal, h.2.2.2.2.1.mv hal hh, h.2.2.2.2.2.1.there hal hh, h.2.2.2.2.2.2⟩) (fun r U U' V V' h1 hal h2 h => Got.mv r U U' V V' h1 hal h2 h) ?_
  intro p e s m args below meth c s₁ X0 hexec hbytes hml hret hlk hnm hown hh0 W hP
  obtain ⟨rfl, hB, f1, f2, hA, s1, hz, l0, l1, l2, hp⟩ := hP
  have a31 := hA.1.2.2.2
  have c1 : Steps p.tables e below (s₁.setTop (entryFrame m #[.ref a, .ref b, .int (Int32.ofNat o), .int (Int32.ofNat len), .null] 6)) (s₁.setTop (mkF m 0 #[.val (.ref a), .val (.ref b), .val (.int (Int32.ofNat o)), .val (.int (Int32.ofNat len)), .val .null, .unset] [])) := entry rfl
  have c2 : Steps p.tables e below (s₁.setTop (entryFrame m #[.ref a, .ref b, .int (Int32.ofNat o), .int (Int32.ofNat len), .null] 6)) (s₁.setTop (mkF m 1 #[.val (.ref a), .val (.ref b), .val (.int (Int32.ofNat o)), .val (.int (Int32.ofNat len)), .val .null, .unset] [.ref a])) := c1.trans (by
    refine XS.aloadN X0.here hexec rfl (hb hbytes d0) rfl rfl ?_
    exact Steps.refl _)
  obtain ⟨T3, X3, q3, st3⟩ := X0.oinit hexec hown (wks W (objW "java/lang/String" 1)) (g := (mkF m 1 #[.val (.ref a), .val (.ref b), .val (.int (Int32.ofNat o)), .val (.int (Int32.ofNat len)), .val .null, .unset] [.ref a])) rfl (by rw [hml]; rfl) (rest := []) rfl (hb hbytes d1) (W := 0) (by show 2 * 0 + 0 ≤ _; decide) (Nat.le_of_ble_eq_true rfl) (Nat.le_of_ble_eq_true rfl)
  have hh3 := q3.trans hh0
  have c4 : Steps p.tables e below (s₁.setTop (entryFrame m #[.ref a, .ref b, .int (Int32.ofNat o), .int (Int32.ofNat len), .null] 6)) (T3.setTop (mkF m 27 #[.val (.ref a), .val (.ref b), .val (.int (Int32.ofNat o)), .val (.int (Int32.ofNat len)), .val .null, .unset] [])) := (c2.trans (st3 _ (Steps.refl _))).trans (by
    refine XS.iloadN X3.here hexec rfl (hb hbytes d4) rfl ?_
    refine XS.ifYes X3.here hexec rfl (pc0 := 5) rfl (hb hbytes d5) rfl (i0_ne_t (nz32 (by omega) l0)) (by decide) rfl ?_
    exact Steps.refl _)
  obtain ⟨T5, X5, q5, st5⟩ := X3.sget hexec hown (wk W (.fieldLink "java/lang/String" 38 "java/lang/String" "COMPACT_STRINGS" "Z")) s1 (fun _ _ h => by rw [hh3]; exact h) (g := (mkF m 27 #[.val (.ref a), .val (.ref b), .val (.int (Int32.ofNat o)), .val (.int (Int32.ofNat len)), .val .null, .unset] [])) rfl (hb hbytes d27)
  have hh5 := q5.trans hh3
  have c6 : Steps p.tables e below (s₁.setTop (entryFrame m #[.ref a, .ref b, .int (Int32.ofNat o), .int (Int32.ofNat len), .null] 6)) (T5.setTop (mkF m 30 #[.val (.ref a), .val (.ref b), .val (.int (Int32.ofNat o)), .val (.int (Int32.ofNat len)), .val .null, .unset] [.int z])) := c4.trans (st5 _ (Steps.refl _))
  have c7 : Steps p.tables e below (s₁.setTop (entryFrame m #[.ref a, .ref b, .int (Int32.ofNat o), .int (Int32.ofNat len), .null] 6)) (T5.setTop (mkF m 36 #[.val (.ref a), .val (.ref b), .val (.int (Int32.ofNat o)), .val (.int (Int32.ofNat len)), .val .null, .unset] [.int (Int32.ofNat len), .int (Int32.ofNat o), .ref b])) := c6.trans (by
    refine XS.ifNo X5.here hexec rfl (hb hbytes d30) rfl (i0_eq_f hz) ?_
    refine XS.aloadN X5.here hexec rfl (hb hbytes d33) rfl rfl ?_
    refine XS.iloadN X5.here hexec rfl (hb hbytes d34) rfl ?_
    refine XS.iloadN X5.here hexec rfl (hb hbytes d35) rfl ?_
    exact Steps.refl _)
  obtain ⟨v8, T8, X8, E8, g8⟩ := X5.callS hexec (Cmp3.law l b A o len) hown (wks W (staticW "java/lang/String" 177 Cmp3.yN)) (wk W Cmp3.tab) (W := 0) (Nat.le_of_ble_eq_true rfl) (Nat.le_of_ble_eq_true rfl) (Nat.le_refl _) (by show 0 + len ≤ len; omega) (g := (mkF m 36 #[.val (.ref a), .val (.ref b), .val (.int (Int32.ofNat o)), .val (.int (Int32.ofNat len)), .val .null, .unset] [.int (Int32.ofNat len), .int (Int32.ofNat o), .ref b])) rfl (by rw [hml]; rfl) c7 (argsL := [.ref b, .int (Int32.ofNat o), .int (Int32.ofNat len)]) (rest := []) rfl rfl (by show 2 * 0 + 0 ≤ _; decide) (hb hbytes d36) (⟨rfl, hA.mv X5.warmed.alike hh5, l1, l2, hp⟩)
  obtain ⟨e8, z8⟩ := E8
  obtain ⟨rfl, N, n1, n2, n3, n4, n5, n6⟩ := NewArr.mv _ T5 s _ _ hh5.symm (Vm.Alike.refl _) rfl e8
  rw [hh5] at z8
  have hB1 := hB.keep X8.warmed.alike (n6 _ _ hB.1)
  have hne : s.heap.size ≠ a := (Nat.ne_of_lt (Array.getElem?_eq_some_iff.mp hB.1).1).symm
  have c9 : Steps p.tables e below (s₁.setTop (entryFrame m #[.ref a, .ref b, .int (Int32.ofNat o), .int (Int32.ofNat len), .null] 6)) (T8.setTop (mkF m 39 #[.val (.ref a), .val (.ref b), .val (.int (Int32.ofNat o)), .val (.int (Int32.ofNat len)), .val .null, .unset] [.ref s.heap.size])) := g8
  have c10 : Steps p.tables e below (s₁.setTop (entryFrame m #[.ref a, .ref b, .int (Int32.ofNat o), .int (Int32.ofNat len), .null] 6)) (T8.setTop (mkF m 45 #[.val (.ref a), .val (.ref b), .val (.int (Int32.ofNat o)), .val (.int (Int32.ofNat len)), .val .null, .val (.ref s.heap.size)] [.int (Int32.ofNat N.slots.size), .ref s.heap.size, .ref a])) := by
    have hc : Steps p.tables e below (s₁.setTop (entryFrame m #[.ref a, .ref b, .int (Int32.ofNat o), .int (Int32.ofNat len), .null] 6)) (T8.setTop (mkF m 45 #[.val (.ref a), .val (.ref b), .val (.int (Int32.ofNat o)), .val (.int (Int32.ofNat len)), .val .null, .val (.ref s.heap.size)] [.int (Int32.ofNat len), .ref s.heap.size, .ref a])) := c9.trans (by
      refine XS.astore X8.here hexec rfl (hb hbytes d39) rfl rfl rfl ?_
      refine XS.aloadN X8.here hexec rfl (hb hbytes d41) rfl rfl ?_
      refine XS.aload X8.here hexec rfl (hb hbytes d42) rfl rfl ?_
      refine XS.iloadN X8.here hexec rfl (hb hbytes d44) rfl ?_
      exact Steps.refl _)
    rw [n4]; exact hc
  obtain ⟨v11, T11, X11, E11, g11⟩ := X8.callS hexec (CodL.law l s.heap.size N) hown (wks W (staticW "java/lang/String" 47 CodL.yN)) (wk W CodL.tab) (W := 1) (Nat.le_of_ble_eq_true rfl) (Nat.le_of_ble_eq_true rfl) (Nat.le_refl _) (by show 0 + len + 0 ≤ len; omega) (g := (mkF m 45 #[.val (.ref a), .val (.ref b), .val (.int (Int32.ofNat o)), .val (.int (Int32.ofNat len)), .val .null, .val (.ref s.heap.size)] [.int (Int32.ofNat N.slots.size), .ref s.heap.size, .ref a])) rfl (by rw [hml]; rfl) c10 (argsL := [.ref s.heap.size, .int (Int32.ofNat N.slots.size)]) (rest := [.ref a]) rfl rfl (by show 2 * 0 + (1 + 0) ≤ _; decide) (hb hbytes d45) (⟨rfl, n1⟩)
  obtain ⟨rfl, q11⟩ := E11
  have hB11 := hB1.mv (X8.warmed.alike.symm.trans X11.warmed.alike) q11
  have c12 : Steps p.tables e below (s₁.setTop (entryFrame m #[.ref a, .ref b, .int (Int32.ofNat o), .int (Int32.ofNat len), .null] 6)) (T11.setTop (mkF m 48 #[.val (.ref a), .val (.ref b), .val (.int (Int32.ofNat o)), .val (.int (Int32.ofNat len)), .val .null, .val (.ref s.heap.size)] [.int 0, .ref a])) := g11
  obtain ⟨T13, X13, p13, bl13, sl13, st13⟩ := X11.finit hexec hown (wk W (.fieldLink "java/lang/String" 15 "java/lang/String" "coder" "B")) (Or.inr ⟨_, (wk W (.laysFinal "java/lang/String" "java/lang/String" "coder" "B"))⟩) (Or.inl ⟨rfl, hnm⟩) f2 (Or.inl rfl) hB11 (t := .byte) (by decide +kernel) rfl (g := (mkF m 48 #[.val (.ref a), .val (.ref b), .val (.int (Int32.ofNat o)), .val (.int (Int32.ofNat len)), .val .null, .val (.ref s.heap.size)] [.int 0, .ref a])) rfl (rest := []) rfl (hb hbytes d48)
  have c14 : Steps p.tables e below (s₁.setTop (entryFrame m #[.ref a, .ref b, .int (Int32.ofNat o), .int (Int32.ofNat len), .null] 6)) (T13.setTop (mkF m 54 #[.val (.ref a), .val (.ref b), .val (.int (Int32.ofNat o)), .val (.int (Int32.ofNat len)), .val .null, .val (.ref s.heap.size)] [.ref s.heap.size, .ref a])) := (c12.trans (st13 _ (Steps.refl _))).trans (by
    refine XS.aloadN X13.here hexec rfl (hb hbytes d51) rfl rfl ?_
    refine XS.aload X13.here hexec rfl (hb hbytes d52) rfl rfl ?_
    exact Steps.refl _)
  obtain ⟨T15, X15, p15, bl15, sl15, st15⟩ := X13.finit hexec hown (wk W (.fieldLink "java/lang/String" 9 "java/lang/String" "value" "[B")) (Or.inr ⟨_, (wk W (.laysFinal "java/lang/String" "java/lang/String" "value" "[B"))⟩) (Or.inl ⟨rfl, hnm⟩) f1 (Or.inl rfl) bl13 (t := (.array .byte)) (by decide +kernel) rfl (g := (mkF m 54 #[.val (.ref a), .val (.ref b), .val (.int (Int32.ofNat o)), .val (.int (Int32.ofNat len)), .val .null, .val (.ref s.heap.size)] [.ref s.heap.size, .ref a])) rfl (rest := []) rfl (hb hbytes d54)
  have c16 : Steps p.tables e below (s₁.setTop (entryFrame m #[.ref a, .ref b, .int (Int32.ofNat o), .int (Int32.ofNat len), .null] 6)) (T15.setTop (mkF m 57 #[.val (.ref a), .val (.ref b), .val (.int (Int32.ofNat o)), .val (.int (Int32.ofNat len)), .val .null, .val (.ref s.heap.size)] [])) := c14.trans (st15 _ (Steps.refl _))
  have ap := apart (Or.inr ⟨_, (wk W (.laysFinal "java/lang/String" "java/lang/String" "value" "[B"))⟩) (Or.inr ⟨_, (wk W (.laysFinal "java/lang/String" "java/lang/String" "coder" "B"))⟩) f1 f2 (t₁ := .array .byte) (t₂ := .byte) (by decide +kernel) (by decide +kernel) (by decide)
  have al := X8.warmed.alike.symm.trans X15.warmed.alike
  have n7 : T11.heap[s.heap.size]? = some N := by rw [q11]; exact n1.1
  exact ⟨T15, none, _, _, _, X15, by simp, rfl, by omega, (fun _ => rfl), ⟨rfl, _, N, bl15, ((Same.refl D _).set _ (by simp)).set _ (by simp), sl15, (Cell.slots_setSlot_ne _ ap).trans sl13, n1.keep al (p15.other hne (p13.other hne n7)), n2, by rw [al.findClass]; exact n3, n4, n5, fun y c h1 h2 => p15.other h1 (p13.other h1 (by rw [q11]; exact n6 y c h2)), by rw [p15.2.2, p13.2.2, q11]; exact z8⟩, fun fs hl => c16.trans (X15.returnOut hexec hret (hb hbytes d57) hl)⟩
end New4
namespace New1
def yN : MethodName := ⟨"java/lang/String", "<init>", "([C)V"⟩
abbrev yB : ByteArray := jdk_42_method_3_code
theorem d0 : decode yB 0 = .ok (.aload_n 0, 1) := by decide +kernel
theorem d1 : decode yB 1 = .ok (.aload_n 1, 1) := by decide +kernel
theorem d2 : decode yB 2 = .ok (.iconst 0, 1) := by decide +kernel
theorem d3 : decode yB 3 = .ok (.aload_n 1, 1) := by decide +kernel
theorem d4 : decode yB 4 = .ok (.arraylength, 1) := by decide +kernel
theorem d5 : decode yB 5 = .ok (.aconst_null, 1) := by decide +kernel
theorem d6 : decode yB 6 = .ok (.invokespecial 27, 3) := by decide +kernel
theorem d9 : decode yB 9 = .ok (.return_, 1) := by decide +kernel
def site : List Cond := [New4.tab] ++ initW "java/lang/String" 27 New4.yN
def tab : Cond := tabOf yN yB 2 none site
def P (a : Addr) (D : Cell) (fV fC : Field) (b : Addr) (A : Cell) (z : Int32) (args : Array Value) (s : State) : Prop := args = #[.ref a, .ref b] ∧ Blank "java/lang/String" a D s ∧ Found "java/lang/String" "value" "[B" fV s ∧ Found "java/lang/String" "coder" "B" fC s ∧ Ch b A s ∧ StaticIs s "java/lang/String" "COMPACT_STRINGS" "Z" (.int z) ∧ ¬ z = 0 ∧ 0 < A.slots.size ∧ A.slots.size ≤ 536870912 ∧ ∀ i, i < A.slots.size → ¬ 255 < cv A i
def E (a : Addr) (D : Cell) (fV fC : Field) (A : Cell) (r : Option Value) (s u : State) : Prop := Got a D fV fC A 0 A.slots.size r s u
/-- new String(chars), not empty, no char above 255: a Latin-1 String of their low bytes -/
theorem law (l : Launch) (a : Addr) (D : Cell) (fV fC : Field) (b : Addr) (A : Cell) (z : Int32) : Law l yN 2 1 3 52 yB 2 none site (P a D fV fC b A z) (E a D fV fC A) [⟨a, fC.slot⟩, ⟨a, fV.slot⟩] 1 A.slots.size := by
  refine Law.of_walk (plainFor_of_name (by decide +kernel)) (by decide +kernel) (by decide +kernel) (by decide) (fun _ _ h => by rw [h.1]; rfl) (fun _ U U' hal hh h => ⟨h.1, h.2.1.mv hal hh, h.2.2.1.al hal, h.2.2.2.1.al hal, h.2.2.2.2.1.mv hal hh, h.2.2.2.2.2.1.there hal hh, h.2.2.2.2.2.2⟩) (fun r U U' V V' h1 hal h2 h => Got.mv r U U' V V' h1 hal h2 h) ?_
  intro p e s m args below meth c s₁ X0 hexec hbytes hml hret hlk hnm hown hh0 W hP
  obtain ⟨rfl, hB, f1, f2, hA, s1, hz, l0, l2, hp⟩ := hP
  have c1 : Steps p.tables e below (s₁.setTop (entryFrame m #[.ref a, .ref b] 2)) (s₁.setTop (mkF m 0 #[.val (.ref a), .val (.ref b)] [])) := entry rfl
  have c2 : Steps p.tables e below (s₁.setTop (entryFrame m #[.ref a, .ref b] 2)) (s₁.setTop (mkF m 6 #[.val (.ref a), .val (.ref b)] [.null, .int (Int32.ofNat A.slots.size), .int 0, .ref b, .ref a])) := c1.trans (by
    refine XS.aloadN X0.here hexec rfl (hb hbytes d0) rfl rfl ?_
    refine XS.aloadN X0.here hexec rfl (hb hbytes d1) rfl rfl ?_
    refine iconstV X0.here hexec rfl 0 (hb hbytes d2) (by decide) ?_
    refine XS.aloadN X0.here hexec rfl (hb hbytes d3) rfl rfl ?_
    refine X0.alen hexec (hA.1.mv X0.warmed.alike hh0) rfl rfl (hb hbytes d4) ?_
    refine XS.aconstNull X0.here hexec rfl (hb hbytes d5) ?_
    exact Steps.refl _)
  obtain ⟨v3, T3, X3, E3, g3⟩ := X0.callN hexec (New4.law l a D fV fC b A z 0 A.slots.size) rfl hown (wks W (initW "java/lang/String" 27 New4.yN)) (W New4.tab (by simp only [site, List.mem_cons, List.mem_append, true_or, or_true])) (W := 0) (Nat.le_of_ble_eq_true rfl) (Nat.le_of_ble_eq_true rfl) (Nat.le_refl _) (by show 0 + A.slots.size ≤ A.slots.size; omega) (g := (mkF m 6 #[.val (.ref a), .val (.ref b)] [.null, .int (Int32.ofNat A.slots.size), .int (Int32.ofNat 0), .ref b, .ref a])) rfl (by rw [hml]; rfl) c2 (argsL := [.ref b, .int (Int32.ofNat 0), .int (Int32.ofNat A.slots.size), .null]) (rest := []) rfl rfl (by show 2 * 0 + 0 ≤ _; decide) (hb hbytes d6) (⟨rfl, hB.mv X0.warmed.alike hh0, f1.al X0.warmed.alike, f2.al X0.warmed.alike, hA.mv X0.warmed.alike hh0, s1.there X0.warmed.alike hh0, hz, l0, by omega, l2, fun i hi => by rw [Nat.zero_add]; exact hp i hi⟩)
  have e0 := Got.mv _ s₁ s _ _ hh0.symm (Vm.Alike.refl _) rfl E3
  obtain rfl := e0.1
  have c4 : Steps p.tables e below (s₁.setTop (entryFrame m #[.ref a, .ref b] 2)) (T3.setTop (mkF m 9 #[.val (.ref a), .val (.ref b)] [])) := g3
  exact ⟨T3, none, _, _, _, X3, by simp, rfl, by omega, (fun _ => rfl), e0, fun fs hl => c4.trans (X3.returnOut hexec hret (hb hbytes d9) hl)⟩
theorem pays {l : Launch} {R : Room} {p : Program} {e : Env} {below : List Frame} {s : State} {sargs : Array Value} {len W : Nat} (a : Addr) (D : Cell) (fV fC : Field) (b : Addr) (A : Cell) (z : Int32) (htab : tab.before sargs s = true) (hfr : 4 ≤ R.frames) (hlo : W + 65 ≤ R.locals) :
    Back l R p e below s sargs yN len W (fun A₁ a₁ => A₁.cells + 1 ≤ R.cells ∧ A₁.slots + A.slots.size ≤ R.slots ∧ P a D fV fC b A z a₁ A₁.U) (fun A₁ _ v₁ B₁ => E a D fV fC A v₁ A₁.U B₁.U ∧ B₁.locs = A₁.locs ++ [⟨a, fC.slot⟩, ⟨a, fV.slot⟩] ∧ B₁.cells = A₁.cells + 1 ∧ B₁.slots = A₁.slots + A.slots.size) :=
  (law l a D fV fC b A z).pays htab hfr (by omega)
end New1
end StrChars
namespace StrChars.Road
open Jvm Sem ClassFile Op Lib Jvm.Stand Jvm.Free Jvm.Free.XT
open Jvm.Lib.Cold (StaticIs)
abbrev ST : String := "java/lang/String"
/-- every table word that New1's law asks, flat -/
abbrev words : List Jvm.Cond := [.code New1.yN New1.yB 2 none, .initialized ST, .methodLink ST 27 New4.yN, .instanceMethod New4.yN,
  .code New4.yN New4.yB 6 none, .fieldLink ST 38 ST "COMPACT_STRINGS" "Z", .laysFinal ST ST "value" "[B", .fieldLink ST 9 ST "value" "[B", .laysFinal ST ST "coder" "B", .fieldLink ST 15 ST "coder" "B",
  .methodLink ST 1 Lib.objectInit, .instanceMethod Lib.objectInit, .code Lib.objectInit ⟨#[0xb1]⟩ 1 none, .methodLink ST 177 Cmp3.yN, .static Cmp3.yN, .methodLink ST 47 CodL.yN, .static CodL.yN,
  .code Cmp3.yN Cmp3.yB 6 (some (.array .byte)), .initialized U16, .arrayClass .byte, .methodLink U16 115 Cmp5.yN, .static Cmp5.yN, .code Cmp5.yN Cmp5.yB 7 (some .int), .code CodL.yN CodL.yB 2 (some .byte)]
theorem tab_of {a : Array Value} {s : State} (h : ∀ w ∈ words, w.before a s = true) : New1.tab.before a s = true := by
  have h5 : Cmp5.tab.before a s = true := unparts (wk h (.code Cmp5.yN Cmp5.yB 7 (some .int))) (wks h (.initialized Cmp5.yN.cls :: Cmp5.site))
  have hc : CodL.tab.before a s = true := unparts (wk h (.code CodL.yN CodL.yB 2 (some .byte))) (wks h (.initialized CodL.yN.cls :: CodL.site))
  have q5 : ∀ w ∈ Cmp5.tab :: words, w.before a s = true := fun w hw => (List.mem_cons.mp hw).elim (fun e => e ▸ h5) (h w)
  have h3 : Cmp3.tab.before a s = true := unparts (wk q5 (.code Cmp3.yN Cmp3.yB 6 (some (.array .byte)))) (wks q5 (.initialized Cmp3.yN.cls :: Cmp3.site))
  have q3 : ∀ w ∈ Cmp3.tab :: CodL.tab :: words, w.before a s = true := fun w hw => (List.mem_cons.mp hw).elim (fun e => e ▸ h3) fun hw => (List.mem_cons.mp hw).elim (fun e => e ▸ hc) (h w)
  have h4 : New4.tab.before a s = true := unparts (wk q3 (.code New4.yN New4.yB 6 none)) (wks q3 (.initialized New4.yN.cls :: New4.site))
  have q4 : ∀ w ∈ New4.tab :: words, w.before a s = true := fun w hw => (List.mem_cons.mp hw).elim (fun e => e ▸ h4) (h w)
  exact unparts (wk q4 (.code New1.yN New1.yB 2 none)) (wks q4 (.initialized New1.yN.cls :: New1.site))
/-- the words ride from the start Z to the walk's own state -/
theorem moved {Z s : State} {a0 args : Array Value} (hZ : Z.Warmed39 s.vm) (hw : ∀ d ∈ words, d.before a0 Z = true) : ∀ d ∈ words, d.before args s = true := fun d hd => by
  have q := hw d hd
  have t : ∀ d ∈ words, d = .arrayClass .byte ∨ (d.onTables && d.keepsFace) = true := by decide +kernel
  rcases t d hd with rfl | t
  · exact RoadKit.mvA hZ q
  · exact RoadKit.mv hZ q t
/-- WHAT COMES BACK, over the tables of the start Z: h the heap at the call, h' behind it -/
def Q (Z : State) (x : Addr) (A : Cell) (h : Heap) (v : Option Value) (h' : Heap) (L : List Loc) : Prop := v = none ∧ (∀ y ∈ L, y.base = x) ∧ RoadKit.Keep h h' [x] ∧ h'.size = h.size + 1 ∧ RoadKit.Exa Z h' x ST ∧ RoadKit.Fld Z h' x ST "value" "[B" (.ref h.size) ∧ RoadKit.Fld Z h' x ST "coder" "B" (.int 0) ∧
  (∃ V : Cell, RoadKit.Arr Z h' h.size V .byte ∧ V.vm = .none ∧ Z.vm.findClass "[B" = some V.cls ∧ V.slots.size = A.slots.size ∧ ∀ j, j < A.slots.size → V.slots[j]? = some (.int (lo8 (cv A j)))) ∧
  ∀ (O n d : String) (w : Value), RoadKit.Fld Z h x O n d w → RoadKit.slotOf Z O n d ≠ RoadKit.slotOf Z ST "value" "[B" → RoadKit.slotOf Z O n d ≠ RoadKit.slotOf Z ST "coder" "B" → RoadKit.Fld Z h' x O n d w
/-- **new String(chars) AT A CALL, IN THE ROAD'S FORM**: for specialBack behind newO: x the fresh String, b the char[] with the cell A -/
theorem back {p : Program} {l : Launch} {e : Env} {R : Room} {s : State} {args : Array Value} {below : List Frame} {len W : Nat} {Z : State} {a0 : Array Value} {h : Heap} (hZ : Z.Warmed39 s.vm) (hw : ∀ d ∈ words, d.before a0 Z = true) {kI : Nat} (wi : (Jvm.Cond.instantiable ST kI).before a0 Z = true)
    {x b : Addr} {A : Cell} {z : Int32} {v0 c0 : Value} (E : RoadKit.Exa Z h x ST) (V : RoadKit.Fld Z h x ST "value" "[B" v0) (C : RoadKit.Fld Z h x ST "coder" "B" c0) (K : RoadKit.Arr Z h b A .char) (hty : Typed .char A) (S : RoadKit.Sta Z h ST "COMPACT_STRINGS" "Z" (.int z)) (hz : ¬ z = 0)
    (l0 : 0 < A.slots.size) (l2 : A.slots.size ≤ 536870912) (hp : ∀ i, i < A.slots.size → ¬ 255 < cv A i) (hfr : 4 ≤ R.frames) (hlo : W + 65 ≤ R.locals) :
    Back l R p e below s args New1.yN len W (fun P a => a = #[.ref x, .ref b] ∧ P.U.heap = h ∧ P.cells + 1 ≤ R.cells ∧ P.slots + A.slots.size ≤ R.slots)
      (fun P _ v B => ∃ L, Q Z x A h v B.U.heap L ∧ B.locs = P.locs ++ L ∧ B.cells = P.cells + 1 ∧ B.slots = P.slots + A.slots.size) := by
  intro m meth c P g ig mk a X hg hsize hdg hW hn hp'
  obtain ⟨rfl, rfl, r1, r2⟩ := hp'
  have al : Z.vm.Alike P.U.vm := hZ.alike.trans X.warmed.alike
  obtain ⟨D, cfV, kV, iV, fV, hD, gV, stV, knV, obV, asV, slV⟩ := id V
  obtain ⟨D', cfC, kC, iC, fC, hD', gC, stC, -, -, asC, slC⟩ := id C
  cases hD.symm.trans hD'
  obtain ⟨D2, kD, e1, e2, e3, e4, e5⟩ := id E
  cases hD.symm.trans e1
  obtain ⟨c2, k2, i1, i2, i3, -⟩ := Cond.instantiable_spec wi
  cases e2.symm.trans i1
  cases e3.symm.trans i2
  obtain ⟨kU, u1, u2⟩ := al.2.2 _ _ e3
  have hB : Blank ST x D P.U := ⟨hD, ⟨knV, fun q hq => by rw [hq] at obV; cases obV⟩, by rw [al.findClass]; exact e2, kU, u1, by rw [u2]; exact i3, by rw [u2]; exact e5 i3⟩
  have F1 : Found ST "value" "[B" fV P.U := ⟨SBG.found_only al ⟨cfV, kV, iV, gV⟩, stV⟩
  have F2 : Found ST "coder" "B" fC P.U := ⟨SBG.found_only al ⟨cfC, kC, iC, gC⟩, stC⟩
  have hA : Ch b A P.U := ⟨⟨K.1, State.isArrayOf_alike al K.2.1, K.2.2, by omega⟩, hty⟩
  have hS : StaticIs P.U ST "COMPACT_STRINGS" "Z" (.int z) := by
    obtain ⟨cfS, iS, kS, fS, st, cS, t1, t2, t3, t4, t5, t6, t7⟩ := S
    exact StaticIs.there (s := { Z with heap := P.U.heap }) ⟨cfS, iS, kS, fS, st, cS, t1, t2, t3, t4, t5, (fun q => by rw [q] at t6; cases t6), t7⟩ al rfl
  obtain ⟨v, B, X', ⟨⟨hv, E', V', q1, q2, q3, q4, q5, q6, q7, q8, q9, q10, q11⟩, hl, hc, hs⟩, st⟩ := New1.pays x D fV fC b A z (tab_of (moved hZ hw)) hfr hlo m meth c P g ig mk _ X hg hsize hdg hW hn ⟨r1, r2, rfl, hB, F1, F2, hA, hS, hz, l0, l2, hp⟩
  have al' : Z.vm.Alike B.U.vm := hZ.alike.trans X'.warmed.alike
  have hsz : E'.slots.size = D.slots.size := by
    obtain ⟨-, -, -, kB, w1, w2, w3⟩ := q1
    obtain ⟨kB', y1, y2⟩ := al'.2.2 _ _ e3
    rw [q2.2.1] at w1
    cases w1.symm.trans y1
    rw [w3, e5 i3, y2]
  refine ⟨v, B, X', ⟨_, ⟨hv, ?_, ⟨by omega, fun y cy hy hn' => q10 y cy (by simpa using hn') hy, fun y cy hy => ?_⟩, q11, ⟨E', _, q1.1, by rw [q2.2.1]; exact e2, by rw [q2.2.1]; exact e3, by rw [q2.1]; exact obV, fun _ => by rw [hsz]; exact e5 i3⟩,
    ⟨E', cfV, kV, iV, fV, q1.1, gV, stV, by rw [q2.1]; exact knV, by rw [q2.1]; exact obV, by rw [q2.2.1]; exact asV, q3⟩, ⟨E', cfC, kC, iC, fC, q1.1, gC, stC, by rw [q2.1]; exact knV, by rw [q2.1]; exact obV, by rw [q2.2.1]; exact asC, q4⟩,
    ⟨V', ⟨q5.1, State.isArrayOf_alike al'.symm q5.2.1, q5.2.2.1⟩, q6, by rw [← al'.findClass]; exact q7, q8, fun j hj => by have := q9 j hj; rwa [Nat.zero_add] at this⟩, fun O n d w F n1 n2 => ?_⟩, hl, hc, hs⟩, st⟩
  · intro y hy
    simp only [List.mem_cons, List.not_mem_nil, or_false] at hy
    rcases hy with rfl | rfl <;> rfl
  · by_cases q : y = x
    · subst q
      cases hD.symm.trans hy
      exact ⟨E', q1.1, q2.2.1, q2.1, hsz⟩
    · exact ⟨cy, q10 y cy q hy, rfl, rfl, rfl⟩
  · obtain ⟨D3, cf, k, i, f, g1, g2, g3, g4, g5, g6, g7⟩ := F
    cases hD.symm.trans g1
    simp only [RoadKit.slotOf, g2, gV, gC, Option.map_some, Option.getD_some] at n1 n2
    exact ⟨E', cf, k, i, f, q1.1, g2, g3, by rw [q2.1]; exact g4, by rw [q2.1]; exact g5, by rw [q2.2.1]; exact g6, by rw [q2.2.2 f.slot (by simp [n1, n2])]; exact g7⟩
end StrChars.Road
namespace StrChars.Road
open Jvm Sem ClassFile Op Lib Jvm.Stand Jvm.Free Jvm.Free.XT
/-- WHAT COMES BACK, the byte[] as a list of values -/
def QA (Z : State) (x : Addr) (zn : Int32) (cs : List Int32) (h : Heap) (v : Option Value) (h' : Heap) (L : List Loc) : Prop := v = none ∧ (∀ y ∈ L, y.base = x) ∧ RoadKit.Keep h h' [x] ∧ h'.size = h.size + 1 ∧ RoadKit.Exa Z h' x ST ∧ RoadKit.Fld Z h' x ST "value" "[B" (.ref h.size) ∧ RoadKit.Fld Z h' x ST "coder" "B" (.int 0) ∧
  (∃ kb, Z.vm.findClass "[B" = some kb ∧ RoadKit.Arv Z h' h.size kb .byte zn (cs.map fun c => .int (lo8 c)) (.int 0)) ∧
  ∀ (O n d : String) (w : Value), RoadKit.Fld Z h x O n d w → RoadKit.slotOf Z O n d ≠ RoadKit.slotOf Z ST "value" "[B" → RoadKit.slotOf Z O n d ≠ RoadKit.slotOf Z ST "coder" "B" → RoadKit.Fld Z h' x O n d w
/-- **new String(chars) AT A CALL, THE ARRAYS AS LISTS**: the char[] at b holds cs, not empty, no char above 255 -/
theorem backArv {p : Program} {l : Launch} {e : Env} {R : Room} {s : State} {args : Array Value} {below : List Frame} {len W : Nat} {Z : State} {a0 : Array Value} {h : Heap} (hZ : Z.Warmed39 s.vm) (hw : ∀ d ∈ words, d.before a0 Z = true) {kI : Nat} (wi : (Jvm.Cond.instantiable ST kI).before a0 Z = true)
    {x b : Addr} {k : ClassId} {zn z : Int32} {cs : List Int32} {dv v0 c0 : Value} (E : RoadKit.Exa Z h x ST) (V : RoadKit.Fld Z h x ST "value" "[B" v0) (C : RoadKit.Fld Z h x ST "coder" "B" c0) (K : RoadKit.Arv Z h b k .char zn (cs.map Value.int) dv) (S : RoadKit.Sta Z h ST "COMPACT_STRINGS" "Z" (.int z)) (hz : ¬ z = 0)
    (hlen : zn.toNatClampNeg = cs.length) (h0 : 0 < cs.length) (hbig : cs.length ≤ 536870912) (hall : ∀ c ∈ cs, ¬ 255 < c) (hfr : 4 ≤ R.frames) (hlo : W + 65 ≤ R.locals) :
    Back l R p e below s args New1.yN len W (fun P a => a = #[.ref x, .ref b] ∧ P.U.heap = h ∧ P.cells + 1 ≤ R.cells ∧ P.slots + cs.length ≤ R.slots)
      (fun P _ v B => ∃ L, QA Z x zn cs h v B.U.heap L ∧ B.locs = P.locs ++ L ∧ B.cells = P.cells + 1 ∧ B.slots = P.slots + cs.length) := by
  obtain ⟨A, K1, K2, K3, K4, K5, K6⟩ := K
  have e : A.slots.size = cs.length := K3.trans hlen
  have hat : ∀ (i : Nat) (hi : i < cs.length), A.slots[i]? = some (.int cs[i]) := fun i hi => by rw [K5 i (by omega)]; simp [List.getD_eq_getElem?_getD, hi]
  have hcv : ∀ (i : Nat) (hi : i < cs.length), cv A i = cs[i] := fun i hi => by unfold cv; rw [hat i hi]
  have hty : Typed .char A := fun i v hv => by
    have hi : i < A.slots.size := (Array.getElem?_eq_some_iff.mp hv).1
    have q := K5 i hi
    rw [hv] at q
    rw [Option.some.inj q]
    exact K6 i hi
  refine Back.mono (back hZ hw wi E V C K1 hty S hz (by omega) (by omega) (fun i hi => by rw [hcv i (by omega)]; exact hall _ (List.getElem_mem _)) hfr hlo) (fun P a hp => ⟨hp.1, hp.2.1, hp.2.2.1, by rw [e]; exact hp.2.2.2⟩) (fun P a v B hp hq => ?_)
  obtain ⟨L, ⟨q1, q2, q3, q4, q5, q6, q7, ⟨V', v1, v2, v3, v4, v5⟩, q9⟩, hl, hc, hs⟩ := hq
  refine ⟨L, ⟨q1, q2, q3, q4, q5, q6, q7, ⟨V'.cls, v3, V', v1, rfl, by rw [v4, e, hlen], K4, fun i hi => ?_, fun i hi => ?_⟩, q9⟩, hl, hc, by rw [hs, e]⟩
  · have hi' : i < cs.length := by omega
    rw [v5 i (by omega), hcv i hi']; simp [List.getD_eq_getElem?_getD, hi']
  · have hi' : i < cs.length := by omega
    simp only [List.getD_eq_getElem?_getD, List.getElem?_map, List.getElem?_eq_getElem hi', Option.map_some, Option.getD_some]
    exact fits_lo8 _
end StrChars.Road
namespace StrChars.Road
open Jvm Sem ClassFile Op Lib Jvm.Stand Jvm.Free Jvm.Free.XT
/-- WHAT COMES BACK, in the writer's own shape -/
def QV (Z : State) (x : Addr) (N : Int32) (bs : List Int32) (h : Heap) (n0 : Nat) (v : Option Value) (h' : Heap) (L : List Loc) : Prop := v = none ∧ RoadKit.Fr n0 L ∧ RoadKit.Keep h h' [x] ∧ RoadKit.Exa Z h' x ST ∧ RoadKit.Fld Z h' x ST "coder" "B" (.int 0) ∧
  ∃ (t : Addr) (kb : ClassId), n0 ≤ t ∧ h.size ≤ t ∧ ¬ t = x ∧ RoadKit.Fld Z h' x ST "value" "[B" (.ref t) ∧ RoadKit.Arv Z h' t kb .byte N (bs.map Value.int) (.int 0)
/-- **new String(chars) AT A CALL, FOR THE WRITER**: a char[] of n known ints, each 0 to 255 -/
theorem backV {p : Program} {l : Launch} {e : Env} {R : Room} {s : State} {args : Array Value} {below : List Frame} {len W : Nat} {Z : State} {a0 : Array Value} {h : Heap} (hZ : Z.Warmed39 s.vm) (hw : ∀ d ∈ words, d.before a0 Z = true) {kI : Nat} (wi : (Jvm.Cond.instantiable ST kI).before a0 Z = true)
    {x b : Addr} {kC : ClassId} {cs bs : List Int32} {d v0 c0 : Value} {z N : Int32} {n n0 : Nat} (hx0 : n0 ≤ x) (hh0 : n0 ≤ h.size) (E : RoadKit.Exa Z h x ST) (V : RoadKit.Fld Z h x ST "value" "[B" v0) (C : RoadKit.Fld Z h x ST "coder" "B" c0) (K : RoadKit.Arv Z h b kC .char N (cs.map Value.int) d) (S : RoadKit.Sta Z h ST "COMPACT_STRINGS" "Z" (.int z)) (hz : ¬ z = 0)
    (hn : cs.length = n) (hN : N = Int32.ofNat n) (l0 : 0 < n) (l2 : n ≤ 4000) (hp : ∀ c ∈ cs, ¬ c < 0 ∧ ¬ (255 : Int32) < c) (hb : bs = cs.map (fun c => c.toInt8.toInt32)) (hfr : 4 ≤ R.frames) (hlo : W + 65 ≤ R.locals) :
    Back l R p e below s args (⟨"java/lang/String", "<init>", "([C)V"⟩ : MethodName) len W (fun P a => a = #[.ref x, .ref b] ∧ P.U.heap = h ∧ P.cells + 1 ≤ R.cells ∧ P.slots + n ≤ R.slots)
      (fun P _ v B => ∃ L, QV Z x N bs h n0 v B.U.heap L ∧ B.locs = P.locs ++ L ∧ B.cells = P.cells + 1 ∧ B.slots = P.slots + n) := by
  subst hn hN hb
  refine Back.mono (backArv hZ hw wi E V C K S hz (n32 (by omega)) l0 (by omega) (fun c hc => (hp c hc).2) hfr hlo) (fun P a hp => hp) (fun P a v B hp hq => ?_)
  obtain ⟨L, ⟨q1, q2, q3, q4, q5, q6, q7, ⟨kb, v1, v2⟩, q9⟩, hl, hc, hs⟩ := hq
  exact ⟨L, ⟨q1, fun y hy => by rw [q2 y hy]; exact hx0, q3, q5, q7, h.size, kb, hh0, Nat.le_refl _, Nat.ne_of_gt E.lt, q6, by rw [List.map_map]; exact v2⟩, hl, hc, hs⟩
end StrChars.Road
end Jvm.Pilot.@@N@@
namespace Jvm.RoadKit
open Sem ClassFile Op Lib Jvm.Stand Jvm.Free Jvm.LawKit
section New
variable {p : Program} {l : Launch} {e : Env} {R : Room} {s : State} {m : MethodId} {args : Array Value} {below : List Frame} {meth : Method} {c : Code} {T : State} {locs : List Loc} {cells slots : Nat}
theorem retI (X : Stand p l e R s m args below meth c T locs cells slots) (hx : p.tables.exec = Jvm.exec) {pc : Nat} {Ls : Array Slot} {z : Int32} {rest : List Value} (hret : meth.sig.returnType = some .int) (hd : decode c.code pc = .ok (.ireturn, 1)) {fs : List Frame}
    (hl : ∀ (f : JFrame) (acts : List Action), f.method = m → f.locked = none → f.entered = [] → (doReturn e (T.setTop f) acts (some (.int z))).1 = T.setFrames fs) : Steps p.tables e below (T.setTop (mkF m pc Ls (.int z :: rest))) (T.setFrames fs) := by
  have hm' : T.vm.method? m = some meth := X.method'
  have hn : narrow .int (.int z) = .int z := rfl
  show Steps p.tables e below (T.setTop { method := m, pc := pc, locals := Ls, stack := _ :: rest, locked := none }) _
  jvm_step X.here [X.here.top, hx, hd, hm', hret, hn]
  first | (intro acts; rw [hl _ acts rfl rfl rfl]) | rw [hl _ _ rfl rfl rfl]
  exact Steps.refl _
end New
end Jvm.RoadKit
namespace Jvm.Pilot.@@N@@
open Jvm Jvm.ClassFile Sem Op Lib Jvm.Free Jvm.Stand Jvm.LawKit Jvm.RoadKit Bundle Jvm.Pilot.@@N@@.Jvm.D
/-- where the walk stands, and what is still to come of it -/
abbrev Go (tb : Tables) (e : Env) (below : List Frame) (P : State → Outcome → Prop) (σ : State) : Prop := ∃ s₂ o, Steps tb e below σ s₂ ∧ P s₂ o
theorem go_st {tb : Tables} {e : Env} {below : List Frame} {P : State → Outcome → Prop} {σ σ' : State} (st : ∀ t, Steps tb e below σ' t → Steps tb e below σ t) (k : Go tb e below P σ') : Go tb e below P σ := by
  obtain ⟨a, b, c, d⟩ := k; exact ⟨a, b, st _ c, d⟩
theorem go_tr {tb : Tables} {e : Env} {below : List Frame} {P : State → Outcome → Prop} {σ σ' : State} (st : Steps tb e below σ σ') (k : Go tb e below P σ') : Go tb e below P σ := by
  obtain ⟨a, b, c, d⟩ := k; exact ⟨a, b, st.trans c, d⟩
theorem go_named {tb : Tables} {e : Env} {below : List Frame} {P : State → Outcome → Prop} {σ : State} (k : ∀ P', P' = P → Go tb e below P' σ) : Go tb e below P σ := k P rfl
theorem ext_rfl (h : Heap) : Ext h h := ⟨Nat.le_refl _, fun _ _ q => q⟩
theorem ext_tr {h h' h'' : Heap} (E : Ext h h') (E' : Ext h' h'') : Ext h h'' := ⟨Nat.le_trans E.1 E'.1, fun a c q => E'.2 a c (E.2 a c q)⟩
theorem ext_keep {h h' h'' : Heap} {ws : List Addr} (E : Ext h h') (K : Keep h' h'' ws) (q : ∀ x ∈ ws, h.size ≤ x) : Ext h h'' :=
  ⟨Nat.le_trans E.1 K.1, fun a c r => K.2.1 a c (E.2 a c r) fun z => absurd (Array.getElem?_eq_some_iff.mp r).1 (Nat.not_lt.mpr (q a z))⟩
theorem ext_wr {h h' h'' : Heap} {b : Addr} {sl : Nat} {v : Value} (E : Ext h h') (W : Wr h' h'' b sl v) (q : h.size ≤ b) : Ext h h'' := ext_keep E (Keep.of_wr W) (allS q all0)
theorem keep_of_ext {h h' : Heap} (E : Ext h h') : Keep h h' [] := (Keep.refl h []).ext E
theorem ref_cat {v : Value} (h : v.isRef = true) : v.category = 1 := by rcases ref_cases h with rfl | ⟨a, rfl⟩ <;> rfl
theorem ref_fits {v : Value} (C : String) (h : v.isRef = true) : fits (.object C) v = true := by rcases ref_cases h with rfl | ⟨a, rfl⟩ <;> rfl
theorem ref_narrow {v : Value} (C : String) (h : v.isRef = true) : narrow (.object C) v = v := by rcases ref_cases h with rfl | ⟨a, rfl⟩ <;> rfl
theorem nf_same {s : State} {a0 : Array Value} {y y' : MethodName} (hc : y'.cls = y.cls) (hi : (Jvm.Cond.instanceMethod y').before a0 s = true) (nf : NotFace s y') : NotFace s y := fun r0 h0 => by
  obtain ⟨mk, methM, hnamed, -⟩ := Cond.instanceMethod_spec hi
  obtain ⟨k, hk, hn⟩ := nf mk hnamed
  have e1 := findClass_of_methodNamed h0
  have e2 := findClass_of_methodNamed hnamed
  rw [hc, e1] at e2
  exact ⟨k, (Option.some.inj e2) ▸ hk, hn⟩
theorem sel_priv {s : State} {a0 : Array Value} {y : MethodName} (wp : (Jvm.Cond.privateMethod y).before a0 s = true) (wi : (Jvm.Cond.instanceMethod y).before a0 s = true) (nf : NotFace s y) (hy : y.cls ≠ "java/lang/invoke/MethodHandle" ∧ y.cls ≠ "java/lang/invoke/VarHandle") : (Jvm.Cond.selects y.cls y y).before a0 s = true := by
  obtain ⟨mk, methM, hnamed, -⟩ := Cond.instanceMethod_spec wi
  obtain ⟨k, hk, hn⟩ := nf mk hnamed
  exact selects_self_of_private (findClass_of_methodNamed hnamed) hk hn (Cond.privateMethod_at wp) wi hy
theorem same_self {s : State} {a0 : Array Value} {y : MethodName} (wi : (Jvm.Cond.instanceMethod y).before a0 s = true) (nf : NotFace s y) (hy : y.cls ≠ "java/lang/invoke/MethodHandle" ∧ y.cls ≠ "java/lang/invoke/VarHandle") : (Jvm.Cond.sameMethod y.cls y.cls y.name y.desc).before a0 s = true := by
  obtain ⟨mk, methM, hnamed, -⟩ := Cond.instanceMethod_spec wi
  obtain ⟨k, hk, hn⟩ := nf mk hnamed
  have hf := State.methodFound?_of_named hnamed hy
  have hc := findClass_of_methodNamed hnamed
  have hn' : s.methodNamed? ⟨y.cls, y.name, y.desc⟩ = some mk := hnamed
  simp [Cond.before, Cond.holds, Cond.value, hc, hf, hn', hk, hn]
theorem w38 {Z : State} {a0 : Array Value} (hw : ∀ d ∈ tables_1, d.before a0 Z = true) : (Jvm.Cond.stringLink "com/example/tuplet/tuplet/OptionOfPinLaw" (41 : Nat) "").before a0 Z = true := hw _ (List.mem_of_getElem? (i := 38) rfl)
theorem w196 {Z : State} {a0 : Array Value} (hw : ∀ d ∈ tables_1, d.before a0 Z = true) : (Jvm.Cond.stringLink "com/example/tuplet/tuplet/Commands$Option" (53 : Nat) " ").before a0 Z = true := hw _ (List.mem_of_getElem? (i := 196) rfl)
theorem pn_java_lang_Record : plainName "java/lang/Record" = true := by first | (simp [plainName, overriddenIn]; done) | decide +kernel
theorem d0_0 : decode jdk_30_method_1_code 0 = .ok (.aload_n 0, 1) := by decide +kernel
theorem d0_1 : decode jdk_30_method_1_code 1 = .ok (.invokespecial 1, 3) := by decide +kernel
theorem w55 {Z : State} {a0 : Array Value} (hw : ∀ d ∈ tables_1, d.before a0 Z = true) : (Jvm.Cond.methodLink "java/lang/Record" (1 : Nat) ({ cls := "java/lang/Object", name := "<init>", desc := "()V" } : Jvm.MethodName)).before a0 Z = true := hw _ (List.mem_of_getElem? (i := 55) rfl)
theorem w20 {Z : State} {a0 : Array Value} (hw : ∀ d ∈ tables_1, d.before a0 Z = true) : (Jvm.Cond.instanceMethod ({ cls := "java/lang/Object", name := "<init>", desc := "()V" } : Jvm.MethodName)).before a0 Z = true := hw _ (List.mem_of_getElem? (i := 20) rfl)
theorem w21 {Z : State} {a0 : Array Value} (hw : ∀ d ∈ tables_1, d.before a0 Z = true) : (Jvm.Cond.code ({ cls := "java/lang/Object", name := "<init>", desc := "()V" } : Jvm.MethodName) object_method_1_code (1 : Nat) (Option.none : Option Jvm.ClassFile.FieldType)).before a0 Z = true := hw _ (List.mem_of_getElem? (i := 21) rfl)
theorem d0_4 : decode jdk_30_method_1_code 4 = .ok (.return_, 1) := by decide +kernel
theorem pn_com_example_tuplet_tuplet_Commands_Option : plainName "com/example/tuplet/tuplet/Commands$Option" = true := by first | (simp [plainName, overriddenIn]; done) | decide +kernel
theorem d1_0 : decode prog_6_method_1_code 0 = .ok (.aload_n 0, 1) := by decide +kernel
theorem d1_1 : decode prog_6_method_1_code 1 = .ok (.invokespecial 1, 3) := by decide +kernel
theorem w54 {Z : State} {a0 : Array Value} (hw : ∀ d ∈ tables_1, d.before a0 Z = true) : (Jvm.Cond.code ({ cls := "java/lang/Record", name := "<init>", desc := "()V" } : Jvm.MethodName) jdk_30_method_1_code (1 : Nat) (Option.none : Option Jvm.ClassFile.FieldType)).before a0 Z = true := hw _ (List.mem_of_getElem? (i := 54) rfl)
theorem w53 {Z : State} {a0 : Array Value} (hw : ∀ d ∈ tables_1, d.before a0 Z = true) : (Jvm.Cond.initialized "java/lang/Record").before a0 Z = true := hw _ (List.mem_of_getElem? (i := 53) rfl)
theorem pd_0 : parseMethodDescriptor "()V" = some ⟨[], none⟩ := by decide +kernel
theorem w50 {Z : State} {a0 : Array Value} (hw : ∀ d ∈ tables_1, d.before a0 Z = true) : (Jvm.Cond.methodLink "com/example/tuplet/tuplet/Commands$Option" (1 : Nat) ({ cls := "java/lang/Record", name := "<init>", desc := "()V" } : Jvm.MethodName)).before a0 Z = true := hw _ (List.mem_of_getElem? (i := 50) rfl)
theorem w51 {Z : State} {a0 : Array Value} (hw : ∀ d ∈ tables_1, d.before a0 Z = true) : (Jvm.Cond.instanceMethod ({ cls := "java/lang/Record", name := "<init>", desc := "()V" } : Jvm.MethodName)).before a0 Z = true := hw _ (List.mem_of_getElem? (i := 51) rfl)
theorem d1_4 : decode prog_6_method_1_code 4 = .ok (.aload_n 0, 1) := by decide +kernel
theorem d1_5 : decode prog_6_method_1_code 5 = .ok (.aload_n 1, 1) := by decide +kernel
theorem d1_6 : decode prog_6_method_1_code 6 = .ok (.putfield 7, 3) := by decide +kernel
theorem w56 {Z : State} {a0 : Array Value} (hw : ∀ d ∈ tables_1, d.before a0 Z = true) : (Jvm.Cond.fieldLink "com/example/tuplet/tuplet/Commands$Option" (7 : Nat) "com/example/tuplet/tuplet/Commands$Option" "name" "Ljava/lang/String;").before a0 Z = true := hw _ (List.mem_of_getElem? (i := 56) rfl)
theorem w57 {Z : State} {a0 : Array Value} (hw : ∀ d ∈ tables_1, d.before a0 Z = true) : (Jvm.Cond.laysFinal "com/example/tuplet/tuplet/Commands$Option" "com/example/tuplet/tuplet/Commands$Option" "name" "Ljava/lang/String;").before a0 Z = true := hw _ (List.mem_of_getElem? (i := 57) rfl)
theorem w46 {Z : State} {a0 : Array Value} (hw : ∀ d ∈ tables_1, d.before a0 Z = true) : (Jvm.Cond.instantiable "com/example/tuplet/tuplet/Commands$Option" (6 : Nat)).before a0 Z = true := hw _ (List.mem_of_getElem? (i := 46) rfl)
theorem d1_9 : decode prog_6_method_1_code 9 = .ok (.aload_n 0, 1) := by decide +kernel
theorem d1_10 : decode prog_6_method_1_code 10 = .ok (.aload_n 2, 1) := by decide +kernel
theorem d1_11 : decode prog_6_method_1_code 11 = .ok (.putfield 13, 3) := by decide +kernel
theorem w58 {Z : State} {a0 : Array Value} (hw : ∀ d ∈ tables_1, d.before a0 Z = true) : (Jvm.Cond.fieldLink "com/example/tuplet/tuplet/Commands$Option" (13 : Nat) "com/example/tuplet/tuplet/Commands$Option" "kind" "Lcom/example/tuplet/tuplet/Commands$Kind;").before a0 Z = true := hw _ (List.mem_of_getElem? (i := 58) rfl)
theorem w59 {Z : State} {a0 : Array Value} (hw : ∀ d ∈ tables_1, d.before a0 Z = true) : (Jvm.Cond.laysFinal "com/example/tuplet/tuplet/Commands$Option" "com/example/tuplet/tuplet/Commands$Option" "kind" "Lcom/example/tuplet/tuplet/Commands$Kind;").before a0 Z = true := hw _ (List.mem_of_getElem? (i := 59) rfl)
theorem d1_14 : decode prog_6_method_1_code 14 = .ok (.aload_n 0, 1) := by decide +kernel
theorem d1_15 : decode prog_6_method_1_code 15 = .ok (.aload_n 3, 1) := by decide +kernel
theorem d1_16 : decode prog_6_method_1_code 16 = .ok (.putfield 17, 3) := by decide +kernel
theorem w60 {Z : State} {a0 : Array Value} (hw : ∀ d ∈ tables_1, d.before a0 Z = true) : (Jvm.Cond.fieldLink "com/example/tuplet/tuplet/Commands$Option" (17 : Nat) "com/example/tuplet/tuplet/Commands$Option" "label" "Ljava/lang/String;").before a0 Z = true := hw _ (List.mem_of_getElem? (i := 60) rfl)
theorem w61 {Z : State} {a0 : Array Value} (hw : ∀ d ∈ tables_1, d.before a0 Z = true) : (Jvm.Cond.laysFinal "com/example/tuplet/tuplet/Commands$Option" "com/example/tuplet/tuplet/Commands$Option" "label" "Ljava/lang/String;").before a0 Z = true := hw _ (List.mem_of_getElem? (i := 61) rfl)
theorem d1_19 : decode prog_6_method_1_code 19 = .ok (.aload_n 0, 1) := by decide +kernel
theorem d1_20 : decode prog_6_method_1_code 20 = .ok (.aload 4, 2) := by decide +kernel
theorem d1_22 : decode prog_6_method_1_code 22 = .ok (.putfield 20, 3) := by decide +kernel
theorem w62 {Z : State} {a0 : Array Value} (hw : ∀ d ∈ tables_1, d.before a0 Z = true) : (Jvm.Cond.fieldLink "com/example/tuplet/tuplet/Commands$Option" (20 : Nat) "com/example/tuplet/tuplet/Commands$Option" "help" "Ljava/lang/String;").before a0 Z = true := hw _ (List.mem_of_getElem? (i := 62) rfl)
theorem w63 {Z : State} {a0 : Array Value} (hw : ∀ d ∈ tables_1, d.before a0 Z = true) : (Jvm.Cond.laysFinal "com/example/tuplet/tuplet/Commands$Option" "com/example/tuplet/tuplet/Commands$Option" "help" "Ljava/lang/String;").before a0 Z = true := hw _ (List.mem_of_getElem? (i := 63) rfl)
theorem d1_25 : decode prog_6_method_1_code 25 = .ok (.aload_n 0, 1) := by decide +kernel
theorem d1_26 : decode prog_6_method_1_code 26 = .ok (.iload 5, 2) := by decide +kernel
theorem d1_28 : decode prog_6_method_1_code 28 = .ok (.putfield 23, 3) := by decide +kernel
theorem w64 {Z : State} {a0 : Array Value} (hw : ∀ d ∈ tables_1, d.before a0 Z = true) : (Jvm.Cond.fieldLink "com/example/tuplet/tuplet/Commands$Option" (23 : Nat) "com/example/tuplet/tuplet/Commands$Option" "required" "Z").before a0 Z = true := hw _ (List.mem_of_getElem? (i := 64) rfl)
theorem w65 {Z : State} {a0 : Array Value} (hw : ∀ d ∈ tables_1, d.before a0 Z = true) : (Jvm.Cond.laysFinal "com/example/tuplet/tuplet/Commands$Option" "com/example/tuplet/tuplet/Commands$Option" "required" "Z").before a0 Z = true := hw _ (List.mem_of_getElem? (i := 65) rfl)
theorem d1_31 : decode prog_6_method_1_code 31 = .ok (.aload_n 0, 1) := by decide +kernel
theorem d1_32 : decode prog_6_method_1_code 32 = .ok (.aload 6, 2) := by decide +kernel
theorem d1_34 : decode prog_6_method_1_code 34 = .ok (.putfield 27, 3) := by decide +kernel
theorem w66 {Z : State} {a0 : Array Value} (hw : ∀ d ∈ tables_1, d.before a0 Z = true) : (Jvm.Cond.fieldLink "com/example/tuplet/tuplet/Commands$Option" (27 : Nat) "com/example/tuplet/tuplet/Commands$Option" "byDefault" "Ljava/lang/String;").before a0 Z = true := hw _ (List.mem_of_getElem? (i := 66) rfl)
theorem w67 {Z : State} {a0 : Array Value} (hw : ∀ d ∈ tables_1, d.before a0 Z = true) : (Jvm.Cond.laysFinal "com/example/tuplet/tuplet/Commands$Option" "com/example/tuplet/tuplet/Commands$Option" "byDefault" "Ljava/lang/String;").before a0 Z = true := hw _ (List.mem_of_getElem? (i := 67) rfl)
theorem d1_37 : decode prog_6_method_1_code 37 = .ok (.return_, 1) := by decide +kernel
theorem pn_java_lang_String : plainName "java/lang/String" = true := by first | (simp [plainName, overriddenIn]; done) | decide +kernel
theorem d2_0 : decode jdk_42_method_66_code 0 = .ok (.aload_n 0, 1) := by decide +kernel
theorem d2_1 : decode jdk_42_method_66_code 1 = .ok (.aload_n 1, 1) := by decide +kernel
theorem d2_2 : decode jdk_42_method_66_code 2 = .ok (.if_acmp .ne 5, 3) := by decide +kernel
theorem d2_5 : decode jdk_42_method_66_code 5 = .ok (.iconst 1, 1) := by decide +kernel
theorem d2_6 : decode jdk_42_method_66_code 6 = .ok (.ireturn, 1) := by decide +kernel
theorem pn_com_example_tuplet_tuplet_OptionOfPinLaw : plainName "com/example/tuplet/tuplet/OptionOfPinLaw" = true := by first | (simp [plainName, overriddenIn]; done) | decide +kernel
theorem d3_0 : decode method_2_code 0 = .ok (.iload_n 0, 1) := by decide +kernel
theorem d3_1 : decode method_2_code 1 = .ok (.ldc 7, 2) := by decide +kernel
theorem w4 {Z : State} {a0 : Array Value} (hw : ∀ d ∈ tables_1, d.before a0 Z = true) : (Jvm.Cond.constant "com/example/tuplet/tuplet/OptionOfPinLaw" (7 : Nat) (2147483647 : Int32)).before a0 Z = true := hw _ (List.mem_of_getElem? (i := 4) rfl)
theorem d3_3 : decode method_2_code 3 = .ok (.iand, 1) := by decide +kernel
theorem d3_4 : decode method_2_code 4 = .ok (.iconst 5, 1) := by decide +kernel
theorem d3_5 : decode method_2_code 5 = .ok (.irem, 1) := by decide +kernel
theorem d3_6 : decode method_2_code 6 = .ok (.istore_n 1, 1) := by decide +kernel
theorem d3_7 : decode method_2_code 7 = .ok (.iload_n 1, 1) := by decide +kernel
theorem d3_8 : decode method_2_code 8 = .ok (.ifCond .ne 7, 3) := by decide +kernel
theorem d3_11 : decode method_2_code 11 = .ok (.getstatic 8, 3) := by decide +kernel
theorem w5 {Z : State} {a0 : Array Value} (hw : ∀ d ∈ tables_1, d.before a0 Z = true) : (Jvm.Cond.fieldLink "com/example/tuplet/tuplet/OptionOfPinLaw" (8 : Nat) "com/example/tuplet/tuplet/Commands$Kind" "FLAG" "Lcom/example/tuplet/tuplet/Commands$Kind;").before a0 Z = true := hw _ (List.mem_of_getElem? (i := 5) rfl)
theorem d3_14 : decode method_2_code 14 = .ok (.areturn, 1) := by decide +kernel
theorem d3_15 : decode method_2_code 15 = .ok (.iload_n 1, 1) := by decide +kernel
theorem d3_16 : decode method_2_code 16 = .ok (.iconst 1, 1) := by decide +kernel
theorem d3_17 : decode method_2_code 17 = .ok (.if_icmp .ne 7, 3) := by decide +kernel
theorem d3_20 : decode method_2_code 20 = .ok (.getstatic 14, 3) := by decide +kernel
theorem w264 {Z : State} {a0 : Array Value} (hw : ∀ d ∈ tables_1, d.before a0 Z = true) : (Jvm.Cond.fieldLink "com/example/tuplet/tuplet/OptionOfPinLaw" (14 : Nat) "com/example/tuplet/tuplet/Commands$Kind" "TEXT" "Lcom/example/tuplet/tuplet/Commands$Kind;").before a0 Z = true := hw _ (List.mem_of_getElem? (i := 264) rfl)
theorem d3_23 : decode method_2_code 23 = .ok (.areturn, 1) := by decide +kernel
theorem d3_24 : decode method_2_code 24 = .ok (.iload_n 1, 1) := by decide +kernel
theorem d3_25 : decode method_2_code 25 = .ok (.iconst 2, 1) := by decide +kernel
theorem d3_26 : decode method_2_code 26 = .ok (.if_icmp .ne 7, 3) := by decide +kernel
theorem d3_29 : decode method_2_code 29 = .ok (.getstatic 17, 3) := by decide +kernel
theorem w113 {Z : State} {a0 : Array Value} (hw : ∀ d ∈ tables_1, d.before a0 Z = true) : (Jvm.Cond.fieldLink "com/example/tuplet/tuplet/OptionOfPinLaw" (17 : Nat) "com/example/tuplet/tuplet/Commands$Kind" "INTEGER" "Lcom/example/tuplet/tuplet/Commands$Kind;").before a0 Z = true := hw _ (List.mem_of_getElem? (i := 113) rfl)
theorem d3_32 : decode method_2_code 32 = .ok (.areturn, 1) := by decide +kernel
theorem d3_33 : decode method_2_code 33 = .ok (.iload_n 1, 1) := by decide +kernel
theorem d3_34 : decode method_2_code 34 = .ok (.iconst 3, 1) := by decide +kernel
theorem d3_35 : decode method_2_code 35 = .ok (.if_icmp .ne 7, 3) := by decide +kernel
theorem d3_38 : decode method_2_code 38 = .ok (.getstatic 20, 3) := by decide +kernel
theorem w266 {Z : State} {a0 : Array Value} (hw : ∀ d ∈ tables_1, d.before a0 Z = true) : (Jvm.Cond.fieldLink "com/example/tuplet/tuplet/OptionOfPinLaw" (20 : Nat) "com/example/tuplet/tuplet/Commands$Kind" "PATH" "Lcom/example/tuplet/tuplet/Commands$Kind;").before a0 Z = true := hw _ (List.mem_of_getElem? (i := 266) rfl)
theorem d3_41 : decode method_2_code 41 = .ok (.areturn, 1) := by decide +kernel
theorem d3_42 : decode method_2_code 42 = .ok (.getstatic 23, 3) := by decide +kernel
theorem w115 {Z : State} {a0 : Array Value} (hw : ∀ d ∈ tables_1, d.before a0 Z = true) : (Jvm.Cond.fieldLink "com/example/tuplet/tuplet/OptionOfPinLaw" (23 : Nat) "com/example/tuplet/tuplet/Commands$Kind" "LIST" "Lcom/example/tuplet/tuplet/Commands$Kind;").before a0 Z = true := hw _ (List.mem_of_getElem? (i := 115) rfl)
theorem d3_45 : decode method_2_code 45 = .ok (.areturn, 1) := by decide +kernel
theorem d4_0 : decode prog_6_method_10_code 0 = .ok (.aload_n 0, 1) := by decide +kernel
theorem d4_1 : decode prog_6_method_10_code 1 = .ok (.getfield 7, 3) := by decide +kernel
theorem d4_4 : decode prog_6_method_10_code 4 = .ok (.areturn, 1) := by decide +kernel
theorem d5_0 : decode prog_6_method_11_code 0 = .ok (.aload_n 0, 1) := by decide +kernel
theorem d5_1 : decode prog_6_method_11_code 1 = .ok (.getfield 13, 3) := by decide +kernel
theorem d5_4 : decode prog_6_method_11_code 4 = .ok (.areturn, 1) := by decide +kernel
theorem d6_0 : decode prog_6_method_12_code 0 = .ok (.aload_n 0, 1) := by decide +kernel
theorem d6_1 : decode prog_6_method_12_code 1 = .ok (.getfield 17, 3) := by decide +kernel
theorem d6_4 : decode prog_6_method_12_code 4 = .ok (.areturn, 1) := by decide +kernel
theorem d7_0 : decode prog_6_method_13_code 0 = .ok (.aload_n 0, 1) := by decide +kernel
theorem d7_1 : decode prog_6_method_13_code 1 = .ok (.getfield 20, 3) := by decide +kernel
theorem d7_4 : decode prog_6_method_13_code 4 = .ok (.areturn, 1) := by decide +kernel
theorem d8_0 : decode prog_6_method_15_code 0 = .ok (.aload_n 0, 1) := by decide +kernel
theorem d8_1 : decode prog_6_method_15_code 1 = .ok (.getfield 27, 3) := by decide +kernel
theorem d8_4 : decode prog_6_method_15_code 4 = .ok (.areturn, 1) := by decide +kernel
theorem d9_0 : decode prog_6_method_14_code 0 = .ok (.aload_n 0, 1) := by decide +kernel
theorem d9_1 : decode prog_6_method_14_code 1 = .ok (.getfield 23, 3) := by decide +kernel
theorem d9_4 : decode prog_6_method_14_code 4 = .ok (.ireturn, 1) := by decide +kernel
theorem d10_0 : decode prog_6_method_3_code 0 = .ok (.new 8, 3) := by decide +kernel
theorem w45 {Z : State} {a0 : Array Value} (hw : ∀ d ∈ tables_1, d.before a0 Z = true) : (Jvm.Cond.classLink "com/example/tuplet/tuplet/Commands$Option" (8 : Nat) "com/example/tuplet/tuplet/Commands$Option").before a0 Z = true := hw _ (List.mem_of_getElem? (i := 45) rfl)
theorem w43 {Z : State} {a0 : Array Value} (hw : ∀ d ∈ tables_1, d.before a0 Z = true) : (Jvm.Cond.initialized "com/example/tuplet/tuplet/Commands$Option").before a0 Z = true := hw _ (List.mem_of_getElem? (i := 43) rfl)
theorem d10_3 : decode prog_6_method_3_code 3 = .ok (.dup, 1) := by decide +kernel
theorem d10_4 : decode prog_6_method_3_code 4 = .ok (.aload_n 0, 1) := by decide +kernel
theorem d10_5 : decode prog_6_method_3_code 5 = .ok (.aload_n 1, 1) := by decide +kernel
theorem d10_6 : decode prog_6_method_3_code 6 = .ok (.aload_n 2, 1) := by decide +kernel
theorem d10_7 : decode prog_6_method_3_code 7 = .ok (.aload_n 3, 1) := by decide +kernel
theorem d10_8 : decode prog_6_method_3_code 8 = .ok (.iconst 0, 1) := by decide +kernel
theorem d10_9 : decode prog_6_method_3_code 9 = .ok (.aconst_null, 1) := by decide +kernel
theorem d10_10 : decode prog_6_method_3_code 10 = .ok (.invokespecial 37, 3) := by decide +kernel
theorem w49 {Z : State} {a0 : Array Value} (hw : ∀ d ∈ tables_1, d.before a0 Z = true) : (Jvm.Cond.code ({ cls := "com/example/tuplet/tuplet/Commands$Option", name := "<init>", desc := "(Ljava/lang/String;Lcom/example/tuplet/tuplet/Commands$Kind;Ljava/lang/String;Ljava/lang/String;ZLjava/lang/String;)V" } : Jvm.MethodName) prog_6_method_1_code (7 : Nat) (Option.none : Option Jvm.ClassFile.FieldType)).before a0 Z = true := hw _ (List.mem_of_getElem? (i := 49) rfl)
theorem pd_1 : parseMethodDescriptor "(Ljava/lang/String;Lcom/example/tuplet/tuplet/Commands$Kind;Ljava/lang/String;Ljava/lang/String;ZLjava/lang/String;)V" = some ⟨[(.object "java/lang/String"), (.object "com/example/tuplet/tuplet/Commands$Kind"), (.object "java/lang/String"), (.object "java/lang/String"), .boolean, (.object "java/lang/String")], none⟩ := by decide +kernel
theorem w47 {Z : State} {a0 : Array Value} (hw : ∀ d ∈ tables_1, d.before a0 Z = true) : (Jvm.Cond.methodLink "com/example/tuplet/tuplet/Commands$Option" (37 : Nat) ({ cls := "com/example/tuplet/tuplet/Commands$Option", name := "<init>", desc := "(Ljava/lang/String;Lcom/example/tuplet/tuplet/Commands$Kind;Ljava/lang/String;Ljava/lang/String;ZLjava/lang/String;)V" } : Jvm.MethodName)).before a0 Z = true := hw _ (List.mem_of_getElem? (i := 47) rfl)
theorem w48 {Z : State} {a0 : Array Value} (hw : ∀ d ∈ tables_1, d.before a0 Z = true) : (Jvm.Cond.instanceMethod ({ cls := "com/example/tuplet/tuplet/Commands$Option", name := "<init>", desc := "(Ljava/lang/String;Lcom/example/tuplet/tuplet/Commands$Kind;Ljava/lang/String;Ljava/lang/String;ZLjava/lang/String;)V" } : Jvm.MethodName)).before a0 Z = true := hw _ (List.mem_of_getElem? (i := 48) rfl)
theorem d10_13 : decode prog_6_method_3_code 13 = .ok (.areturn, 1) := by decide +kernel
theorem d11_0 : decode prog_6_method_6_code 0 = .ok (.aload_n 0, 1) := by decide +kernel
theorem d11_1 : decode prog_6_method_6_code 1 = .ok (.getfield 17, 3) := by decide +kernel
theorem d11_4 : decode prog_6_method_6_code 4 = .ok (.invokevirtual 40, 3) := by decide +kernel
theorem d12_0 : decode jdk_42_method_55_code 0 = .ok (.aload_n 0, 1) := by decide +kernel
theorem d12_1 : decode jdk_42_method_55_code 1 = .ok (.getfield 9, 3) := by decide +kernel
theorem w36 {Z : State} {a0 : Array Value} (hw : ∀ d ∈ tables_1, d.before a0 Z = true) : (Jvm.Cond.fieldLink "java/lang/String" (9 : Nat) "java/lang/String" "value" "[B").before a0 Z = true := hw _ (List.mem_of_getElem? (i := 36) rfl)
theorem d12_4 : decode jdk_42_method_55_code 4 = .ok (.arraylength, 1) := by decide +kernel
theorem d12_5 : decode jdk_42_method_55_code 5 = .ok (.ifCond .ne 7, 3) := by decide +kernel
theorem d12_8 : decode jdk_42_method_55_code 8 = .ok (.iconst 1, 1) := by decide +kernel
theorem d12_9 : decode jdk_42_method_55_code 9 = .ok (.goto 4, 3) := by decide +kernel
theorem d12_13 : decode jdk_42_method_55_code 13 = .ok (.ireturn, 1) := by decide +kernel
theorem w112 {Z : State} {a0 : Array Value} (hw : ∀ d ∈ tables_1, d.before a0 Z = true) : (Jvm.Cond.code ({ cls := "java/lang/String", name := "isEmpty", desc := "()Z" } : Jvm.MethodName) jdk_42_method_55_code (1 : Nat) (Option.some Jvm.ClassFile.FieldType.boolean)).before a0 Z = true := hw _ (List.mem_of_getElem? (i := 112) rfl)
theorem w11 {Z : State} {a0 : Array Value} (hw : ∀ d ∈ tables_1, d.before a0 Z = true) : (Jvm.Cond.initialized "java/lang/String").before a0 Z = true := hw _ (List.mem_of_getElem? (i := 11) rfl)
theorem pd_2 : parseMethodDescriptor "()Z" = some ⟨[], some .boolean⟩ := by decide +kernel
theorem w108 {Z : State} {a0 : Array Value} (hw : ∀ d ∈ tables_1, d.before a0 Z = true) : (Jvm.Cond.methodLink "com/example/tuplet/tuplet/Commands$Option" (40 : Nat) ({ cls := "java/lang/String", name := "isEmpty", desc := "()Z" } : Jvm.MethodName)).before a0 Z = true := hw _ (List.mem_of_getElem? (i := 108) rfl)
theorem w111 {Z : State} {a0 : Array Value} (hw : ∀ d ∈ tables_1, d.before a0 Z = true) : (Jvm.Cond.selects "java/lang/String" ({ cls := "java/lang/String", name := "isEmpty", desc := "()Z" } : Jvm.MethodName) ({ cls := "java/lang/String", name := "isEmpty", desc := "()Z" } : Jvm.MethodName)).before a0 Z = true := hw _ (List.mem_of_getElem? (i := 111) rfl)
theorem w76 {Z : State} {a0 : Array Value} (hw : ∀ d ∈ tables_1, d.before a0 Z = true) : (Jvm.Cond.selects "java/lang/String" ({ cls := "java/lang/String", name := "equals", desc := "(Ljava/lang/Object;)Z" } : Jvm.MethodName) ({ cls := "java/lang/String", name := "equals", desc := "(Ljava/lang/Object;)Z" } : Jvm.MethodName)).before a0 Z = true := hw _ (List.mem_of_getElem? (i := 76) rfl)
theorem w75 {Z : State} {a0 : Array Value} (hw : ∀ d ∈ tables_1, d.before a0 Z = true) : (Jvm.Cond.instanceMethod ({ cls := "java/lang/String", name := "equals", desc := "(Ljava/lang/Object;)Z" } : Jvm.MethodName)).before a0 Z = true := hw _ (List.mem_of_getElem? (i := 75) rfl)
theorem w109 {Z : State} {a0 : Array Value} (hw : ∀ d ∈ tables_1, d.before a0 Z = true) : (Jvm.Cond.declares ({ cls := "java/lang/String", name := "isEmpty", desc := "()Z" } : Jvm.MethodName)).before a0 Z = true := hw _ (List.mem_of_getElem? (i := 109) rfl)
theorem w110 {Z : State} {a0 : Array Value} (hw : ∀ d ∈ tables_1, d.before a0 Z = true) : (Jvm.Cond.instanceMethod ({ cls := "java/lang/String", name := "isEmpty", desc := "()Z" } : Jvm.MethodName)).before a0 Z = true := hw _ (List.mem_of_getElem? (i := 110) rfl)
theorem d11_7 : decode prog_6_method_6_code 7 = .ok (.ifCond .eq 10, 3) := by decide +kernel
theorem d11_10 : decode prog_6_method_6_code 10 = .ok (.aload_n 0, 1) := by decide +kernel
theorem d11_11 : decode prog_6_method_6_code 11 = .ok (.getfield 7, 3) := by decide +kernel
theorem d11_14 : decode prog_6_method_6_code 14 = .ok (.goto 32, 3) := by decide +kernel
theorem d11_46 : decode prog_6_method_6_code 46 = .ok (.areturn, 1) := by decide +kernel
theorem d12_12 : decode jdk_42_method_55_code 12 = .ok (.iconst 0, 1) := by decide +kernel
theorem d11_17 : decode prog_6_method_6_code 17 = .ok (.new 46, 3) := by decide +kernel
theorem w131 {Z : State} {a0 : Array Value} (hw : ∀ d ∈ tables_1, d.before a0 Z = true) : (Jvm.Cond.classLink "com/example/tuplet/tuplet/Commands$Option" (46 : Nat) "java/lang/StringBuilder").before a0 Z = true := hw _ (List.mem_of_getElem? (i := 131) rfl)
theorem w132 {Z : State} {a0 : Array Value} (hw : ∀ d ∈ tables_1, d.before a0 Z = true) : (Jvm.Cond.instantiable "java/lang/StringBuilder" (4 : Nat)).before a0 Z = true := hw _ (List.mem_of_getElem? (i := 132) rfl)
theorem w133 {Z : State} {a0 : Array Value} (hw : ∀ d ∈ tables_1, d.before a0 Z = true) : (Jvm.Cond.initialized "java/lang/StringBuilder").before a0 Z = true := hw _ (List.mem_of_getElem? (i := 133) rfl)
theorem w146 {Z : State} {a0 : Array Value} (hw : ∀ d ∈ tables_1, d.before a0 Z = true) : (Jvm.Cond.lays "java/lang/StringBuilder" "java/lang/AbstractStringBuilder" "value" "[B").before a0 Z = true := hw _ (List.mem_of_getElem? (i := 146) rfl)
theorem w148 {Z : State} {a0 : Array Value} (hw : ∀ d ∈ tables_1, d.before a0 Z = true) : (Jvm.Cond.lays "java/lang/StringBuilder" "java/lang/AbstractStringBuilder" "coder" "B").before a0 Z = true := hw _ (List.mem_of_getElem? (i := 148) rfl)
theorem w170 {Z : State} {a0 : Array Value} (hw : ∀ d ∈ tables_1, d.before a0 Z = true) : (Jvm.Cond.lays "java/lang/StringBuilder" "java/lang/AbstractStringBuilder" "count" "I").before a0 Z = true := hw _ (List.mem_of_getElem? (i := 170) rfl)
theorem d11_20 : decode prog_6_method_6_code 20 = .ok (.dup, 1) := by decide +kernel
theorem d11_21 : decode prog_6_method_6_code 21 = .ok (.invokespecial 48, 3) := by decide +kernel
theorem pn_java_lang_StringBuilder : plainName "java/lang/StringBuilder" = true := by first | (simp [plainName, overriddenIn]; done) | decide +kernel
theorem d13_0 : decode jdk_67_method_1_code 0 = .ok (.aload_n 0, 1) := by decide +kernel
theorem d13_1 : decode jdk_67_method_1_code 1 = .ok (.bipush 16, 2) := by decide +kernel
theorem d13_3 : decode jdk_67_method_1_code 3 = .ok (.invokespecial 1, 3) := by decide +kernel
theorem pn_java_lang_AbstractStringBuilder : plainName "java/lang/AbstractStringBuilder" = true := by first | (simp [plainName, overriddenIn]; done) | decide +kernel
theorem d14_0 : decode jdk_68_method_2_code 0 = .ok (.aload_n 0, 1) := by decide +kernel
theorem d14_1 : decode jdk_68_method_2_code 1 = .ok (.invokespecial 3, 3) := by decide +kernel
theorem w143 {Z : State} {a0 : Array Value} (hw : ∀ d ∈ tables_1, d.before a0 Z = true) : (Jvm.Cond.methodLink "java/lang/AbstractStringBuilder" (3 : Nat) ({ cls := "java/lang/Object", name := "<init>", desc := "()V" } : Jvm.MethodName)).before a0 Z = true := hw _ (List.mem_of_getElem? (i := 143) rfl)
theorem d14_4 : decode jdk_68_method_2_code 4 = .ok (.getstatic 18, 3) := by decide +kernel
theorem w144 {Z : State} {a0 : Array Value} (hw : ∀ d ∈ tables_1, d.before a0 Z = true) : (Jvm.Cond.fieldLink "java/lang/AbstractStringBuilder" (18 : Nat) "java/lang/String" "COMPACT_STRINGS" "Z").before a0 Z = true := hw _ (List.mem_of_getElem? (i := 144) rfl)
theorem d14_7 : decode jdk_68_method_2_code 7 = .ok (.ifCond .eq 18, 3) := by decide +kernel
theorem d14_10 : decode jdk_68_method_2_code 10 = .ok (.aload_n 0, 1) := by decide +kernel
theorem d14_11 : decode jdk_68_method_2_code 11 = .ok (.iload_n 1, 1) := by decide +kernel
theorem d14_12 : decode jdk_68_method_2_code 12 = .ok (.newarray .byte, 2) := by decide +kernel
theorem w27 {Z : State} {a0 : Array Value} (hw : ∀ d ∈ tables_1, d.before a0 Z = true) : (Jvm.Cond.arrayClass Jvm.ClassFile.FieldType.byte).before a0 Z = true := hw _ (List.mem_of_getElem? (i := 27) rfl)
theorem d14_14 : decode jdk_68_method_2_code 14 = .ok (.putfield 15, 3) := by decide +kernel
theorem w145 {Z : State} {a0 : Array Value} (hw : ∀ d ∈ tables_1, d.before a0 Z = true) : (Jvm.Cond.fieldLink "java/lang/AbstractStringBuilder" (15 : Nat) "java/lang/AbstractStringBuilder" "value" "[B").before a0 Z = true := hw _ (List.mem_of_getElem? (i := 145) rfl)
theorem d14_17 : decode jdk_68_method_2_code 17 = .ok (.aload_n 0, 1) := by decide +kernel
theorem d14_18 : decode jdk_68_method_2_code 18 = .ok (.iconst 0, 1) := by decide +kernel
theorem d14_19 : decode jdk_68_method_2_code 19 = .ok (.putfield 22, 3) := by decide +kernel
theorem w147 {Z : State} {a0 : Array Value} (hw : ∀ d ∈ tables_1, d.before a0 Z = true) : (Jvm.Cond.fieldLink "java/lang/AbstractStringBuilder" (22 : Nat) "java/lang/AbstractStringBuilder" "coder" "B").before a0 Z = true := hw _ (List.mem_of_getElem? (i := 147) rfl)
theorem d14_22 : decode jdk_68_method_2_code 22 = .ok (.goto 16, 3) := by decide +kernel
theorem d14_38 : decode jdk_68_method_2_code 38 = .ok (.return_, 1) := by decide +kernel
theorem w142 {Z : State} {a0 : Array Value} (hw : ∀ d ∈ tables_1, d.before a0 Z = true) : (Jvm.Cond.code ({ cls := "java/lang/AbstractStringBuilder", name := "<init>", desc := "(I)V" } : Jvm.MethodName) jdk_68_method_2_code (2 : Nat) (Option.none : Option Jvm.ClassFile.FieldType)).before a0 Z = true := hw _ (List.mem_of_getElem? (i := 142) rfl)
theorem w141 {Z : State} {a0 : Array Value} (hw : ∀ d ∈ tables_1, d.before a0 Z = true) : (Jvm.Cond.initialized "java/lang/AbstractStringBuilder").before a0 Z = true := hw _ (List.mem_of_getElem? (i := 141) rfl)
theorem pd_3 : parseMethodDescriptor "(I)V" = some ⟨[.int], none⟩ := by decide +kernel
theorem w137 {Z : State} {a0 : Array Value} (hw : ∀ d ∈ tables_1, d.before a0 Z = true) : (Jvm.Cond.methodLink "java/lang/StringBuilder" (1 : Nat) ({ cls := "java/lang/AbstractStringBuilder", name := "<init>", desc := "(I)V" } : Jvm.MethodName)).before a0 Z = true := hw _ (List.mem_of_getElem? (i := 137) rfl)
theorem w138 {Z : State} {a0 : Array Value} (hw : ∀ d ∈ tables_1, d.before a0 Z = true) : (Jvm.Cond.instanceMethod ({ cls := "java/lang/AbstractStringBuilder", name := "<init>", desc := "(I)V" } : Jvm.MethodName)).before a0 Z = true := hw _ (List.mem_of_getElem? (i := 138) rfl)
theorem d13_6 : decode jdk_67_method_1_code 6 = .ok (.return_, 1) := by decide +kernel
theorem w136 {Z : State} {a0 : Array Value} (hw : ∀ d ∈ tables_1, d.before a0 Z = true) : (Jvm.Cond.code ({ cls := "java/lang/StringBuilder", name := "<init>", desc := "()V" } : Jvm.MethodName) jdk_67_method_1_code (1 : Nat) (Option.none : Option Jvm.ClassFile.FieldType)).before a0 Z = true := hw _ (List.mem_of_getElem? (i := 136) rfl)
theorem w134 {Z : State} {a0 : Array Value} (hw : ∀ d ∈ tables_1, d.before a0 Z = true) : (Jvm.Cond.methodLink "com/example/tuplet/tuplet/Commands$Option" (48 : Nat) ({ cls := "java/lang/StringBuilder", name := "<init>", desc := "()V" } : Jvm.MethodName)).before a0 Z = true := hw _ (List.mem_of_getElem? (i := 134) rfl)
theorem w135 {Z : State} {a0 : Array Value} (hw : ∀ d ∈ tables_1, d.before a0 Z = true) : (Jvm.Cond.instanceMethod ({ cls := "java/lang/StringBuilder", name := "<init>", desc := "()V" } : Jvm.MethodName)).before a0 Z = true := hw _ (List.mem_of_getElem? (i := 135) rfl)
theorem d11_24 : decode prog_6_method_6_code 24 = .ok (.aload_n 0, 1) := by decide +kernel
theorem d11_25 : decode prog_6_method_6_code 25 = .ok (.getfield 7, 3) := by decide +kernel
theorem d11_28 : decode prog_6_method_6_code 28 = .ok (.invokevirtual 49, 3) := by decide +kernel
theorem d15_0 : decode jdk_67_method_7_code 0 = .ok (.aload_n 0, 1) := by decide +kernel
theorem d15_1 : decode jdk_67_method_7_code 1 = .ok (.aload_n 1, 1) := by decide +kernel
theorem d15_2 : decode jdk_67_method_7_code 2 = .ok (.invokespecial 29, 3) := by decide +kernel
theorem d16_0 : decode jdk_68_method_22_code 0 = .ok (.aload_n 1, 1) := by decide +kernel
theorem d16_1 : decode jdk_68_method_22_code 1 = .ok (.ifnonnull 8, 3) := by decide +kernel
theorem d16_9 : decode jdk_68_method_22_code 9 = .ok (.aload_n 1, 1) := by decide +kernel
theorem d16_10 : decode jdk_68_method_22_code 10 = .ok (.invokevirtual 32, 3) := by decide +kernel
theorem d17_0 : decode jdk_42_method_54_code 0 = .ok (.aload_n 0, 1) := by decide +kernel
theorem d17_1 : decode jdk_42_method_54_code 1 = .ok (.getfield 9, 3) := by decide +kernel
theorem d17_4 : decode jdk_42_method_54_code 4 = .ok (.arraylength, 1) := by decide +kernel
theorem d17_5 : decode jdk_42_method_54_code 5 = .ok (.aload_n 0, 1) := by decide +kernel
theorem d17_6 : decode jdk_42_method_54_code 6 = .ok (.invokevirtual 335, 3) := by decide +kernel
theorem d18_0 : decode jdk_42_method_152_code 0 = .ok (.getstatic 38, 3) := by decide +kernel
theorem w22 {Z : State} {a0 : Array Value} (hw : ∀ d ∈ tables_1, d.before a0 Z = true) : (Jvm.Cond.fieldLink "java/lang/String" (38 : Nat) "java/lang/String" "COMPACT_STRINGS" "Z").before a0 Z = true := hw _ (List.mem_of_getElem? (i := 22) rfl)
theorem d18_3 : decode jdk_42_method_152_code 3 = .ok (.ifCond .eq 10, 3) := by decide +kernel
theorem d18_6 : decode jdk_42_method_152_code 6 = .ok (.aload_n 0, 1) := by decide +kernel
theorem d18_7 : decode jdk_42_method_152_code 7 = .ok (.getfield 15, 3) := by decide +kernel
theorem w34 {Z : State} {a0 : Array Value} (hw : ∀ d ∈ tables_1, d.before a0 Z = true) : (Jvm.Cond.fieldLink "java/lang/String" (15 : Nat) "java/lang/String" "coder" "B").before a0 Z = true := hw _ (List.mem_of_getElem? (i := 34) rfl)
theorem d18_10 : decode jdk_42_method_152_code 10 = .ok (.goto 4, 3) := by decide +kernel
theorem d18_14 : decode jdk_42_method_152_code 14 = .ok (.ireturn, 1) := by decide +kernel
theorem w168 {Z : State} {a0 : Array Value} (hw : ∀ d ∈ tables_1, d.before a0 Z = true) : (Jvm.Cond.code ({ cls := "java/lang/String", name := "coder", desc := "()B" } : Jvm.MethodName) jdk_42_method_152_code (1 : Nat) (Option.some Jvm.ClassFile.FieldType.byte)).before a0 Z = true := hw _ (List.mem_of_getElem? (i := 168) rfl)
theorem pd_4 : parseMethodDescriptor "()B" = some ⟨[], some .byte⟩ := by decide +kernel
theorem w164 {Z : State} {a0 : Array Value} (hw : ∀ d ∈ tables_1, d.before a0 Z = true) : (Jvm.Cond.methodLink "java/lang/String" (335 : Nat) ({ cls := "java/lang/String", name := "coder", desc := "()B" } : Jvm.MethodName)).before a0 Z = true := hw _ (List.mem_of_getElem? (i := 164) rfl)
theorem w167 {Z : State} {a0 : Array Value} (hw : ∀ d ∈ tables_1, d.before a0 Z = true) : (Jvm.Cond.selects "java/lang/String" ({ cls := "java/lang/String", name := "coder", desc := "()B" } : Jvm.MethodName) ({ cls := "java/lang/String", name := "coder", desc := "()B" } : Jvm.MethodName)).before a0 Z = true := hw _ (List.mem_of_getElem? (i := 167) rfl)
theorem w165 {Z : State} {a0 : Array Value} (hw : ∀ d ∈ tables_1, d.before a0 Z = true) : (Jvm.Cond.declares ({ cls := "java/lang/String", name := "coder", desc := "()B" } : Jvm.MethodName)).before a0 Z = true := hw _ (List.mem_of_getElem? (i := 165) rfl)
theorem w166 {Z : State} {a0 : Array Value} (hw : ∀ d ∈ tables_1, d.before a0 Z = true) : (Jvm.Cond.instanceMethod ({ cls := "java/lang/String", name := "coder", desc := "()B" } : Jvm.MethodName)).before a0 Z = true := hw _ (List.mem_of_getElem? (i := 166) rfl)
theorem d17_9 : decode jdk_42_method_54_code 9 = .ok (.ishr, 1) := by decide +kernel
theorem d17_10 : decode jdk_42_method_54_code 10 = .ok (.ireturn, 1) := by decide +kernel
theorem w163 {Z : State} {a0 : Array Value} (hw : ∀ d ∈ tables_1, d.before a0 Z = true) : (Jvm.Cond.code ({ cls := "java/lang/String", name := "length", desc := "()I" } : Jvm.MethodName) jdk_42_method_54_code (1 : Nat) (Option.some Jvm.ClassFile.FieldType.int)).before a0 Z = true := hw _ (List.mem_of_getElem? (i := 163) rfl)
theorem pd_5 : parseMethodDescriptor "()I" = some ⟨[], some .int⟩ := by decide +kernel
theorem w159 {Z : State} {a0 : Array Value} (hw : ∀ d ∈ tables_1, d.before a0 Z = true) : (Jvm.Cond.methodLink "java/lang/AbstractStringBuilder" (32 : Nat) ({ cls := "java/lang/String", name := "length", desc := "()I" } : Jvm.MethodName)).before a0 Z = true := hw _ (List.mem_of_getElem? (i := 159) rfl)
theorem w162 {Z : State} {a0 : Array Value} (hw : ∀ d ∈ tables_1, d.before a0 Z = true) : (Jvm.Cond.selects "java/lang/String" ({ cls := "java/lang/String", name := "length", desc := "()I" } : Jvm.MethodName) ({ cls := "java/lang/String", name := "length", desc := "()I" } : Jvm.MethodName)).before a0 Z = true := hw _ (List.mem_of_getElem? (i := 162) rfl)
theorem w160 {Z : State} {a0 : Array Value} (hw : ∀ d ∈ tables_1, d.before a0 Z = true) : (Jvm.Cond.declares ({ cls := "java/lang/String", name := "length", desc := "()I" } : Jvm.MethodName)).before a0 Z = true := hw _ (List.mem_of_getElem? (i := 160) rfl)
theorem w161 {Z : State} {a0 : Array Value} (hw : ∀ d ∈ tables_1, d.before a0 Z = true) : (Jvm.Cond.instanceMethod ({ cls := "java/lang/String", name := "length", desc := "()I" } : Jvm.MethodName)).before a0 Z = true := hw _ (List.mem_of_getElem? (i := 161) rfl)
theorem d16_13 : decode jdk_68_method_22_code 13 = .ok (.istore_n 2, 1) := by decide +kernel
theorem d16_14 : decode jdk_68_method_22_code 14 = .ok (.aload_n 0, 1) := by decide +kernel
theorem d16_15 : decode jdk_68_method_22_code 15 = .ok (.aload_n 0, 1) := by decide +kernel
theorem d16_16 : decode jdk_68_method_22_code 16 = .ok (.getfield 79, 3) := by decide +kernel
theorem w169 {Z : State} {a0 : Array Value} (hw : ∀ d ∈ tables_1, d.before a0 Z = true) : (Jvm.Cond.fieldLink "java/lang/AbstractStringBuilder" (79 : Nat) "java/lang/AbstractStringBuilder" "count" "I").before a0 Z = true := hw _ (List.mem_of_getElem? (i := 169) rfl)
theorem d16_19 : decode jdk_68_method_22_code 19 = .ok (.iload_n 2, 1) := by decide +kernel
theorem d16_20 : decode jdk_68_method_22_code 20 = .ok (.iadd, 1) := by decide +kernel
theorem d16_21 : decode jdk_68_method_22_code 21 = .ok (.invokevirtual 100, 3) := by decide +kernel
theorem d19_0 : decode jdk_68_method_9_code 0 = .ok (.aload_n 0, 1) := by decide +kernel
theorem d19_1 : decode jdk_68_method_9_code 1 = .ok (.getfield 15, 3) := by decide +kernel
theorem d19_4 : decode jdk_68_method_9_code 4 = .ok (.arraylength, 1) := by decide +kernel
theorem d19_5 : decode jdk_68_method_9_code 5 = .ok (.aload_n 0, 1) := by decide +kernel
theorem d19_6 : decode jdk_68_method_9_code 6 = .ok (.getfield 22, 3) := by decide +kernel
theorem d19_9 : decode jdk_68_method_9_code 9 = .ok (.ishr, 1) := by decide +kernel
theorem d19_10 : decode jdk_68_method_9_code 10 = .ok (.istore_n 2, 1) := by decide +kernel
theorem d19_11 : decode jdk_68_method_9_code 11 = .ok (.iload_n 1, 1) := by decide +kernel
theorem d19_12 : decode jdk_68_method_9_code 12 = .ok (.iload_n 2, 1) := by decide +kernel
theorem d19_13 : decode jdk_68_method_9_code 13 = .ok (.isub, 1) := by decide +kernel
theorem d19_14 : decode jdk_68_method_9_code 14 = .ok (.ifCond .le 24, 3) := by decide +kernel
theorem d19_38 : decode jdk_68_method_9_code 38 = .ok (.return_, 1) := by decide +kernel
theorem w175 {Z : State} {a0 : Array Value} (hw : ∀ d ∈ tables_1, d.before a0 Z = true) : (Jvm.Cond.code ({ cls := "java/lang/AbstractStringBuilder", name := "ensureCapacityInternal", desc := "(I)V" } : Jvm.MethodName) jdk_68_method_9_code (3 : Nat) (Option.none : Option Jvm.ClassFile.FieldType)).before a0 Z = true := hw _ (List.mem_of_getElem? (i := 175) rfl)
theorem w171 {Z : State} {a0 : Array Value} (hw : ∀ d ∈ tables_1, d.before a0 Z = true) : (Jvm.Cond.methodLink "java/lang/AbstractStringBuilder" (100 : Nat) ({ cls := "java/lang/AbstractStringBuilder", name := "ensureCapacityInternal", desc := "(I)V" } : Jvm.MethodName)).before a0 Z = true := hw _ (List.mem_of_getElem? (i := 171) rfl)
theorem w173 {Z : State} {a0 : Array Value} (hw : ∀ d ∈ tables_1, d.before a0 Z = true) : (Jvm.Cond.privateMethod ({ cls := "java/lang/AbstractStringBuilder", name := "ensureCapacityInternal", desc := "(I)V" } : Jvm.MethodName)).before a0 Z = true := hw _ (List.mem_of_getElem? (i := 173) rfl)
theorem w172 {Z : State} {a0 : Array Value} (hw : ∀ d ∈ tables_1, d.before a0 Z = true) : (Jvm.Cond.instanceMethod ({ cls := "java/lang/AbstractStringBuilder", name := "ensureCapacityInternal", desc := "(I)V" } : Jvm.MethodName)).before a0 Z = true := hw _ (List.mem_of_getElem? (i := 172) rfl)
theorem w174 {Z : State} {a0 : Array Value} (hw : ∀ d ∈ tables_1, d.before a0 Z = true) : (Jvm.Cond.selects "java/lang/StringBuilder" ({ cls := "java/lang/AbstractStringBuilder", name := "ensureCapacityInternal", desc := "(I)V" } : Jvm.MethodName) ({ cls := "java/lang/AbstractStringBuilder", name := "ensureCapacityInternal", desc := "(I)V" } : Jvm.MethodName)).before a0 Z = true := hw _ (List.mem_of_getElem? (i := 174) rfl)
theorem d16_24 : decode jdk_68_method_22_code 24 = .ok (.aload_n 0, 1) := by decide +kernel
theorem d16_25 : decode jdk_68_method_22_code 25 = .ok (.aload_n 0, 1) := by decide +kernel
theorem d16_26 : decode jdk_68_method_22_code 26 = .ok (.getfield 79, 3) := by decide +kernel
theorem d16_29 : decode jdk_68_method_22_code 29 = .ok (.aload_n 1, 1) := by decide +kernel
theorem d16_30 : decode jdk_68_method_22_code 30 = .ok (.invokevirtual 208, 3) := by decide +kernel
theorem d20_0 : decode jdk_68_method_73_code 0 = .ok (.aload_n 0, 1) := by decide +kernel
theorem d20_1 : decode jdk_68_method_73_code 1 = .ok (.aload_n 2, 1) := by decide +kernel
theorem d20_2 : decode jdk_68_method_73_code 2 = .ok (.invokevirtual 397, 3) := by decide +kernel
theorem d21_0 : decode jdk_68_method_71_code 0 = .ok (.getstatic 18, 3) := by decide +kernel
theorem d21_3 : decode jdk_68_method_71_code 3 = .ok (.ifCond .eq 18, 3) := by decide +kernel
theorem d21_6 : decode jdk_68_method_71_code 6 = .ok (.aload_n 0, 1) := by decide +kernel
theorem d21_7 : decode jdk_68_method_71_code 7 = .ok (.getfield 22, 3) := by decide +kernel
theorem d21_10 : decode jdk_68_method_71_code 10 = .ok (.aload_n 1, 1) := by decide +kernel
theorem d21_11 : decode jdk_68_method_71_code 11 = .ok (.invokevirtual 40, 3) := by decide +kernel
theorem w186 {Z : State} {a0 : Array Value} (hw : ∀ d ∈ tables_1, d.before a0 Z = true) : (Jvm.Cond.methodLink "java/lang/AbstractStringBuilder" (40 : Nat) ({ cls := "java/lang/String", name := "coder", desc := "()B" } : Jvm.MethodName)).before a0 Z = true := hw _ (List.mem_of_getElem? (i := 186) rfl)
theorem d21_14 : decode jdk_68_method_71_code 14 = .ok (.if_icmp .eq 7, 3) := by decide +kernel
theorem d21_21 : decode jdk_68_method_71_code 21 = .ok (.return_, 1) := by decide +kernel
theorem w185 {Z : State} {a0 : Array Value} (hw : ∀ d ∈ tables_1, d.before a0 Z = true) : (Jvm.Cond.code ({ cls := "java/lang/AbstractStringBuilder", name := "inflateIfNeededFor", desc := "(Ljava/lang/String;)V" } : Jvm.MethodName) jdk_68_method_71_code (2 : Nat) (Option.none : Option Jvm.ClassFile.FieldType)).before a0 Z = true := hw _ (List.mem_of_getElem? (i := 185) rfl)
theorem pd_6 : parseMethodDescriptor "(Ljava/lang/String;)V" = some ⟨[(.object "java/lang/String")], none⟩ := by decide +kernel
theorem w181 {Z : State} {a0 : Array Value} (hw : ∀ d ∈ tables_1, d.before a0 Z = true) : (Jvm.Cond.methodLink "java/lang/AbstractStringBuilder" (397 : Nat) ({ cls := "java/lang/AbstractStringBuilder", name := "inflateIfNeededFor", desc := "(Ljava/lang/String;)V" } : Jvm.MethodName)).before a0 Z = true := hw _ (List.mem_of_getElem? (i := 181) rfl)
theorem w183 {Z : State} {a0 : Array Value} (hw : ∀ d ∈ tables_1, d.before a0 Z = true) : (Jvm.Cond.privateMethod ({ cls := "java/lang/AbstractStringBuilder", name := "inflateIfNeededFor", desc := "(Ljava/lang/String;)V" } : Jvm.MethodName)).before a0 Z = true := hw _ (List.mem_of_getElem? (i := 183) rfl)
theorem w182 {Z : State} {a0 : Array Value} (hw : ∀ d ∈ tables_1, d.before a0 Z = true) : (Jvm.Cond.instanceMethod ({ cls := "java/lang/AbstractStringBuilder", name := "inflateIfNeededFor", desc := "(Ljava/lang/String;)V" } : Jvm.MethodName)).before a0 Z = true := hw _ (List.mem_of_getElem? (i := 182) rfl)
theorem d20_5 : decode jdk_68_method_73_code 5 = .ok (.aload_n 2, 1) := by decide +kernel
theorem d20_6 : decode jdk_68_method_73_code 6 = .ok (.aload_n 0, 1) := by decide +kernel
theorem d20_7 : decode jdk_68_method_73_code 7 = .ok (.getfield 15, 3) := by decide +kernel
theorem d20_10 : decode jdk_68_method_73_code 10 = .ok (.iload_n 1, 1) := by decide +kernel
theorem d20_11 : decode jdk_68_method_73_code 11 = .ok (.aload_n 0, 1) := by decide +kernel
theorem d20_12 : decode jdk_68_method_73_code 12 = .ok (.getfield 22, 3) := by decide +kernel
theorem d20_15 : decode jdk_68_method_73_code 15 = .ok (.invokevirtual 399, 3) := by decide +kernel
theorem d22_0 : decode jdk_42_method_147_code 0 = .ok (.aload_n 0, 1) := by decide +kernel
theorem d22_1 : decode jdk_42_method_147_code 1 = .ok (.invokevirtual 335, 3) := by decide +kernel
theorem d22_4 : decode jdk_42_method_147_code 4 = .ok (.iload_n 3, 1) := by decide +kernel
theorem d22_5 : decode jdk_42_method_147_code 5 = .ok (.if_icmp .ne 23, 3) := by decide +kernel
theorem d22_8 : decode jdk_42_method_147_code 8 = .ok (.aload_n 0, 1) := by decide +kernel
theorem d22_9 : decode jdk_42_method_147_code 9 = .ok (.getfield 9, 3) := by decide +kernel
theorem d22_12 : decode jdk_42_method_147_code 12 = .ok (.iconst 0, 1) := by decide +kernel
theorem d22_13 : decode jdk_42_method_147_code 13 = .ok (.aload_n 1, 1) := by decide +kernel
theorem d22_14 : decode jdk_42_method_147_code 14 = .ok (.iload_n 2, 1) := by decide +kernel
theorem d22_15 : decode jdk_42_method_147_code 15 = .ok (.iload_n 3, 1) := by decide +kernel
theorem d22_16 : decode jdk_42_method_147_code 16 = .ok (.ishl, 1) := by decide +kernel
theorem d22_17 : decode jdk_42_method_147_code 17 = .ok (.aload_n 0, 1) := by decide +kernel
theorem d22_18 : decode jdk_42_method_147_code 18 = .ok (.getfield 9, 3) := by decide +kernel
theorem d22_21 : decode jdk_42_method_147_code 21 = .ok (.arraylength, 1) := by decide +kernel
theorem d22_22 : decode jdk_42_method_147_code 22 = .ok (.invokestatic 212, 3) := by decide +kernel
theorem w192 {Z : State} {a0 : Array Value} (hw : ∀ d ∈ tables_1, d.before a0 Z = true) : (Jvm.Cond.methodLink "java/lang/String" (212 : Nat) ({ cls := "java/lang/System", name := "arraycopy", desc := "(Ljava/lang/Object;ILjava/lang/Object;II)V" } : Jvm.MethodName)).before a0 Z = true := hw _ (List.mem_of_getElem? (i := 192) rfl)
theorem w195 {Z : State} {a0 : Array Value} (hw : ∀ d ∈ tables_1, d.before a0 Z = true) : (Jvm.Cond.native ({ cls := "java/lang/System", name := "arraycopy", desc := "(Ljava/lang/Object;ILjava/lang/Object;II)V" } : Jvm.MethodName)).before a0 Z = true := hw _ (List.mem_of_getElem? (i := 195) rfl)
theorem w193 {Z : State} {a0 : Array Value} (hw : ∀ d ∈ tables_1, d.before a0 Z = true) : (Jvm.Cond.static ({ cls := "java/lang/System", name := "arraycopy", desc := "(Ljava/lang/Object;ILjava/lang/Object;II)V" } : Jvm.MethodName)).before a0 Z = true := hw _ (List.mem_of_getElem? (i := 193) rfl)
theorem w194 {Z : State} {a0 : Array Value} (hw : ∀ d ∈ tables_1, d.before a0 Z = true) : (Jvm.Cond.initialized "java/lang/System").before a0 Z = true := hw _ (List.mem_of_getElem? (i := 194) rfl)
theorem d22_25 : decode jdk_42_method_147_code 25 = .ok (.goto 18, 3) := by decide +kernel
theorem d22_43 : decode jdk_42_method_147_code 43 = .ok (.return_, 1) := by decide +kernel
theorem w191 {Z : State} {a0 : Array Value} (hw : ∀ d ∈ tables_1, d.before a0 Z = true) : (Jvm.Cond.code ({ cls := "java/lang/String", name := "getBytes", desc := "([BIB)V" } : Jvm.MethodName) jdk_42_method_147_code (4 : Nat) (Option.none : Option Jvm.ClassFile.FieldType)).before a0 Z = true := hw _ (List.mem_of_getElem? (i := 191) rfl)
theorem pd_7 : parseMethodDescriptor "([BIB)V" = some ⟨[(.array .byte), .int, .byte], none⟩ := by decide +kernel
theorem w187 {Z : State} {a0 : Array Value} (hw : ∀ d ∈ tables_1, d.before a0 Z = true) : (Jvm.Cond.methodLink "java/lang/AbstractStringBuilder" (399 : Nat) ({ cls := "java/lang/String", name := "getBytes", desc := "([BIB)V" } : Jvm.MethodName)).before a0 Z = true := hw _ (List.mem_of_getElem? (i := 187) rfl)
theorem w190 {Z : State} {a0 : Array Value} (hw : ∀ d ∈ tables_1, d.before a0 Z = true) : (Jvm.Cond.selects "java/lang/String" ({ cls := "java/lang/String", name := "getBytes", desc := "([BIB)V" } : Jvm.MethodName) ({ cls := "java/lang/String", name := "getBytes", desc := "([BIB)V" } : Jvm.MethodName)).before a0 Z = true := hw _ (List.mem_of_getElem? (i := 190) rfl)
theorem w188 {Z : State} {a0 : Array Value} (hw : ∀ d ∈ tables_1, d.before a0 Z = true) : (Jvm.Cond.declares ({ cls := "java/lang/String", name := "getBytes", desc := "([BIB)V" } : Jvm.MethodName)).before a0 Z = true := hw _ (List.mem_of_getElem? (i := 188) rfl)
theorem w189 {Z : State} {a0 : Array Value} (hw : ∀ d ∈ tables_1, d.before a0 Z = true) : (Jvm.Cond.instanceMethod ({ cls := "java/lang/String", name := "getBytes", desc := "([BIB)V" } : Jvm.MethodName)).before a0 Z = true := hw _ (List.mem_of_getElem? (i := 189) rfl)
theorem d20_18 : decode jdk_68_method_73_code 18 = .ok (.return_, 1) := by decide +kernel
theorem w180 {Z : State} {a0 : Array Value} (hw : ∀ d ∈ tables_1, d.before a0 Z = true) : (Jvm.Cond.code ({ cls := "java/lang/AbstractStringBuilder", name := "putStringAt", desc := "(ILjava/lang/String;)V" } : Jvm.MethodName) jdk_68_method_73_code (3 : Nat) (Option.none : Option Jvm.ClassFile.FieldType)).before a0 Z = true := hw _ (List.mem_of_getElem? (i := 180) rfl)
theorem pd_8 : parseMethodDescriptor "(ILjava/lang/String;)V" = some ⟨[.int, (.object "java/lang/String")], none⟩ := by decide +kernel
theorem w176 {Z : State} {a0 : Array Value} (hw : ∀ d ∈ tables_1, d.before a0 Z = true) : (Jvm.Cond.methodLink "java/lang/AbstractStringBuilder" (208 : Nat) ({ cls := "java/lang/AbstractStringBuilder", name := "putStringAt", desc := "(ILjava/lang/String;)V" } : Jvm.MethodName)).before a0 Z = true := hw _ (List.mem_of_getElem? (i := 176) rfl)
theorem w178 {Z : State} {a0 : Array Value} (hw : ∀ d ∈ tables_1, d.before a0 Z = true) : (Jvm.Cond.privateMethod ({ cls := "java/lang/AbstractStringBuilder", name := "putStringAt", desc := "(ILjava/lang/String;)V" } : Jvm.MethodName)).before a0 Z = true := hw _ (List.mem_of_getElem? (i := 178) rfl)
theorem w177 {Z : State} {a0 : Array Value} (hw : ∀ d ∈ tables_1, d.before a0 Z = true) : (Jvm.Cond.instanceMethod ({ cls := "java/lang/AbstractStringBuilder", name := "putStringAt", desc := "(ILjava/lang/String;)V" } : Jvm.MethodName)).before a0 Z = true := hw _ (List.mem_of_getElem? (i := 177) rfl)
theorem d16_33 : decode jdk_68_method_22_code 33 = .ok (.aload_n 0, 1) := by decide +kernel
theorem d16_34 : decode jdk_68_method_22_code 34 = .ok (.dup, 1) := by decide +kernel
theorem d16_35 : decode jdk_68_method_22_code 35 = .ok (.getfield 79, 3) := by decide +kernel
theorem d16_38 : decode jdk_68_method_22_code 38 = .ok (.iload_n 2, 1) := by decide +kernel
theorem d16_39 : decode jdk_68_method_22_code 39 = .ok (.iadd, 1) := by decide +kernel
theorem d16_40 : decode jdk_68_method_22_code 40 = .ok (.putfield 79, 3) := by decide +kernel
theorem d16_43 : decode jdk_68_method_22_code 43 = .ok (.aload_n 0, 1) := by decide +kernel
theorem d16_44 : decode jdk_68_method_22_code 44 = .ok (.areturn, 1) := by decide +kernel
theorem w158 {Z : State} {a0 : Array Value} (hw : ∀ d ∈ tables_1, d.before a0 Z = true) : (Jvm.Cond.code ({ cls := "java/lang/AbstractStringBuilder", name := "append", desc := "(Ljava/lang/String;)Ljava/lang/AbstractStringBuilder;" } : Jvm.MethodName) jdk_68_method_22_code (3 : Nat) (Option.some (Jvm.ClassFile.FieldType.object "java/lang/AbstractStringBuilder"))).before a0 Z = true := hw _ (List.mem_of_getElem? (i := 158) rfl)
theorem pd_9 : parseMethodDescriptor "(Ljava/lang/String;)Ljava/lang/AbstractStringBuilder;" = some ⟨[(.object "java/lang/String")], some (.object "java/lang/AbstractStringBuilder")⟩ := by decide +kernel
theorem w154 {Z : State} {a0 : Array Value} (hw : ∀ d ∈ tables_1, d.before a0 Z = true) : (Jvm.Cond.methodLink "java/lang/StringBuilder" (29 : Nat) ({ cls := "java/lang/AbstractStringBuilder", name := "append", desc := "(Ljava/lang/String;)Ljava/lang/AbstractStringBuilder;" } : Jvm.MethodName)).before a0 Z = true := hw _ (List.mem_of_getElem? (i := 154) rfl)
theorem w155 {Z : State} {a0 : Array Value} (hw : ∀ d ∈ tables_1, d.before a0 Z = true) : (Jvm.Cond.instanceMethod ({ cls := "java/lang/AbstractStringBuilder", name := "append", desc := "(Ljava/lang/String;)Ljava/lang/AbstractStringBuilder;" } : Jvm.MethodName)).before a0 Z = true := hw _ (List.mem_of_getElem? (i := 155) rfl)
theorem w156 {Z : State} {a0 : Array Value} (hw : ∀ d ∈ tables_1, d.before a0 Z = true) : (Jvm.Cond.superclass "java/lang/StringBuilder" "java/lang/AbstractStringBuilder").before a0 Z = true := hw _ (List.mem_of_getElem? (i := 156) rfl)
theorem d15_5 : decode jdk_67_method_7_code 5 = .ok (.pop, 1) := by decide +kernel
theorem d15_6 : decode jdk_67_method_7_code 6 = .ok (.aload_n 0, 1) := by decide +kernel
theorem d15_7 : decode jdk_67_method_7_code 7 = .ok (.areturn, 1) := by decide +kernel
theorem w153 {Z : State} {a0 : Array Value} (hw : ∀ d ∈ tables_1, d.before a0 Z = true) : (Jvm.Cond.code ({ cls := "java/lang/StringBuilder", name := "append", desc := "(Ljava/lang/String;)Ljava/lang/StringBuilder;" } : Jvm.MethodName) jdk_67_method_7_code (2 : Nat) (Option.some (Jvm.ClassFile.FieldType.object "java/lang/StringBuilder"))).before a0 Z = true := hw _ (List.mem_of_getElem? (i := 153) rfl)
theorem pd_10 : parseMethodDescriptor "(Ljava/lang/String;)Ljava/lang/StringBuilder;" = some ⟨[(.object "java/lang/String")], some (.object "java/lang/StringBuilder")⟩ := by decide +kernel
theorem w149 {Z : State} {a0 : Array Value} (hw : ∀ d ∈ tables_1, d.before a0 Z = true) : (Jvm.Cond.methodLink "com/example/tuplet/tuplet/Commands$Option" (49 : Nat) ({ cls := "java/lang/StringBuilder", name := "append", desc := "(Ljava/lang/String;)Ljava/lang/StringBuilder;" } : Jvm.MethodName)).before a0 Z = true := hw _ (List.mem_of_getElem? (i := 149) rfl)
theorem w152 {Z : State} {a0 : Array Value} (hw : ∀ d ∈ tables_1, d.before a0 Z = true) : (Jvm.Cond.selects "java/lang/StringBuilder" ({ cls := "java/lang/StringBuilder", name := "append", desc := "(Ljava/lang/String;)Ljava/lang/StringBuilder;" } : Jvm.MethodName) ({ cls := "java/lang/StringBuilder", name := "append", desc := "(Ljava/lang/String;)Ljava/lang/StringBuilder;" } : Jvm.MethodName)).before a0 Z = true := hw _ (List.mem_of_getElem? (i := 152) rfl)
theorem w150 {Z : State} {a0 : Array Value} (hw : ∀ d ∈ tables_1, d.before a0 Z = true) : (Jvm.Cond.declares ({ cls := "java/lang/StringBuilder", name := "append", desc := "(Ljava/lang/String;)Ljava/lang/StringBuilder;" } : Jvm.MethodName)).before a0 Z = true := hw _ (List.mem_of_getElem? (i := 150) rfl)
theorem w151 {Z : State} {a0 : Array Value} (hw : ∀ d ∈ tables_1, d.before a0 Z = true) : (Jvm.Cond.instanceMethod ({ cls := "java/lang/StringBuilder", name := "append", desc := "(Ljava/lang/String;)Ljava/lang/StringBuilder;" } : Jvm.MethodName)).before a0 Z = true := hw _ (List.mem_of_getElem? (i := 151) rfl)
theorem d11_31 : decode prog_6_method_6_code 31 = .ok (.ldc 53, 2) := by decide +kernel
theorem d11_33 : decode prog_6_method_6_code 33 = .ok (.invokevirtual 49, 3) := by decide +kernel
theorem d11_36 : decode prog_6_method_6_code 36 = .ok (.aload_n 0, 1) := by decide +kernel
theorem d11_37 : decode prog_6_method_6_code 37 = .ok (.getfield 17, 3) := by decide +kernel
theorem d11_40 : decode prog_6_method_6_code 40 = .ok (.invokevirtual 49, 3) := by decide +kernel
theorem d11_43 : decode prog_6_method_6_code 43 = .ok (.invokevirtual 55, 3) := by decide +kernel
theorem d23_0 : decode jdk_67_method_42_code 0 = .ok (.new 18, 3) := by decide +kernel
theorem w202 {Z : State} {a0 : Array Value} (hw : ∀ d ∈ tables_1, d.before a0 Z = true) : (Jvm.Cond.classLink "java/lang/StringBuilder" (18 : Nat) "java/lang/String").before a0 Z = true := hw _ (List.mem_of_getElem? (i := 202) rfl)
theorem w10 {Z : State} {a0 : Array Value} (hw : ∀ d ∈ tables_1, d.before a0 Z = true) : (Jvm.Cond.instantiable "java/lang/String" (4 : Nat)).before a0 Z = true := hw _ (List.mem_of_getElem? (i := 10) rfl)
theorem w35 {Z : State} {a0 : Array Value} (hw : ∀ d ∈ tables_1, d.before a0 Z = true) : (Jvm.Cond.laysFinal "java/lang/String" "java/lang/String" "coder" "B").before a0 Z = true := hw _ (List.mem_of_getElem? (i := 35) rfl)
theorem w37 {Z : State} {a0 : Array Value} (hw : ∀ d ∈ tables_1, d.before a0 Z = true) : (Jvm.Cond.laysFinal "java/lang/String" "java/lang/String" "value" "[B").before a0 Z = true := hw _ (List.mem_of_getElem? (i := 37) rfl)
theorem d23_3 : decode jdk_67_method_42_code 3 = .ok (.dup, 1) := by decide +kernel
theorem d23_4 : decode jdk_67_method_42_code 4 = .ok (.aload_n 0, 1) := by decide +kernel
theorem d23_5 : decode jdk_67_method_42_code 5 = .ok (.invokespecial 137, 3) := by decide +kernel
theorem d24_0 : decode jdk_42_method_53_code 0 = .ok (.aload_n 0, 1) := by decide +kernel
theorem d24_1 : decode jdk_42_method_53_code 1 = .ok (.aload_n 1, 1) := by decide +kernel
theorem d24_2 : decode jdk_42_method_53_code 2 = .ok (.aconst_null, 1) := by decide +kernel
theorem d24_3 : decode jdk_42_method_53_code 3 = .ok (.invokespecial 489, 3) := by decide +kernel
theorem d25_0 : decode jdk_42_method_150_code 0 = .ok (.aload_n 0, 1) := by decide +kernel
theorem d25_1 : decode jdk_42_method_150_code 1 = .ok (.invokespecial 1, 3) := by decide +kernel
theorem w19 {Z : State} {a0 : Array Value} (hw : ∀ d ∈ tables_1, d.before a0 Z = true) : (Jvm.Cond.methodLink "java/lang/String" (1 : Nat) ({ cls := "java/lang/Object", name := "<init>", desc := "()V" } : Jvm.MethodName)).before a0 Z = true := hw _ (List.mem_of_getElem? (i := 19) rfl)
theorem d25_4 : decode jdk_42_method_150_code 4 = .ok (.aload_n 1, 1) := by decide +kernel
theorem d25_5 : decode jdk_42_method_150_code 5 = .ok (.invokevirtual 552, 3) := by decide +kernel
theorem d26_0 : decode jdk_68_method_64_code 0 = .ok (.aload_n 0, 1) := by decide +kernel
theorem d26_1 : decode jdk_68_method_64_code 1 = .ok (.getfield 15, 3) := by decide +kernel
theorem d26_4 : decode jdk_68_method_64_code 4 = .ok (.areturn, 1) := by decide +kernel
theorem w213 {Z : State} {a0 : Array Value} (hw : ∀ d ∈ tables_1, d.before a0 Z = true) : (Jvm.Cond.code ({ cls := "java/lang/AbstractStringBuilder", name := "getValue", desc := "()[B" } : Jvm.MethodName) jdk_68_method_64_code (1 : Nat) (Option.some (Jvm.ClassFile.FieldType.array Jvm.ClassFile.FieldType.byte))).before a0 Z = true := hw _ (List.mem_of_getElem? (i := 213) rfl)
theorem pd_11 : parseMethodDescriptor "()[B" = some ⟨[], some (.array .byte)⟩ := by decide +kernel
theorem w209 {Z : State} {a0 : Array Value} (hw : ∀ d ∈ tables_1, d.before a0 Z = true) : (Jvm.Cond.methodLink "java/lang/String" (552 : Nat) ({ cls := "java/lang/AbstractStringBuilder", name := "getValue", desc := "()[B" } : Jvm.MethodName)).before a0 Z = true := hw _ (List.mem_of_getElem? (i := 209) rfl)
theorem w212 {Z : State} {a0 : Array Value} (hw : ∀ d ∈ tables_1, d.before a0 Z = true) : (Jvm.Cond.selects "java/lang/StringBuilder" ({ cls := "java/lang/AbstractStringBuilder", name := "getValue", desc := "()[B" } : Jvm.MethodName) ({ cls := "java/lang/AbstractStringBuilder", name := "getValue", desc := "()[B" } : Jvm.MethodName)).before a0 Z = true := hw _ (List.mem_of_getElem? (i := 212) rfl)
theorem w210 {Z : State} {a0 : Array Value} (hw : ∀ d ∈ tables_1, d.before a0 Z = true) : (Jvm.Cond.declares ({ cls := "java/lang/AbstractStringBuilder", name := "getValue", desc := "()[B" } : Jvm.MethodName)).before a0 Z = true := hw _ (List.mem_of_getElem? (i := 210) rfl)
theorem w211 {Z : State} {a0 : Array Value} (hw : ∀ d ∈ tables_1, d.before a0 Z = true) : (Jvm.Cond.instanceMethod ({ cls := "java/lang/AbstractStringBuilder", name := "getValue", desc := "()[B" } : Jvm.MethodName)).before a0 Z = true := hw _ (List.mem_of_getElem? (i := 211) rfl)
theorem d25_8 : decode jdk_42_method_150_code 8 = .ok (.astore_n 3, 1) := by decide +kernel
theorem d25_9 : decode jdk_42_method_150_code 9 = .ok (.aload_n 1, 1) := by decide +kernel
theorem d25_10 : decode jdk_42_method_150_code 10 = .ok (.invokevirtual 549, 3) := by decide +kernel
theorem d27_0 : decode jdk_67_method_93_code 0 = .ok (.aload_n 0, 1) := by decide +kernel
theorem d27_1 : decode jdk_67_method_93_code 1 = .ok (.invokespecial 343, 3) := by decide +kernel
theorem d28_0 : decode jdk_68_method_6_code 0 = .ok (.aload_n 0, 1) := by decide +kernel
theorem d28_1 : decode jdk_68_method_6_code 1 = .ok (.getfield 79, 3) := by decide +kernel
theorem d28_4 : decode jdk_68_method_6_code 4 = .ok (.ireturn, 1) := by decide +kernel
theorem w221 {Z : State} {a0 : Array Value} (hw : ∀ d ∈ tables_1, d.before a0 Z = true) : (Jvm.Cond.code ({ cls := "java/lang/AbstractStringBuilder", name := "length", desc := "()I" } : Jvm.MethodName) jdk_68_method_6_code (1 : Nat) (Option.some Jvm.ClassFile.FieldType.int)).before a0 Z = true := hw _ (List.mem_of_getElem? (i := 221) rfl)
theorem w220 {Z : State} {a0 : Array Value} (hw : ∀ d ∈ tables_1, d.before a0 Z = true) : (Jvm.Cond.methodLink "java/lang/StringBuilder" (343 : Nat) ({ cls := "java/lang/AbstractStringBuilder", name := "length", desc := "()I" } : Jvm.MethodName)).before a0 Z = true := hw _ (List.mem_of_getElem? (i := 220) rfl)
theorem w216 {Z : State} {a0 : Array Value} (hw : ∀ d ∈ tables_1, d.before a0 Z = true) : (Jvm.Cond.instanceMethod ({ cls := "java/lang/AbstractStringBuilder", name := "length", desc := "()I" } : Jvm.MethodName)).before a0 Z = true := hw _ (List.mem_of_getElem? (i := 216) rfl)
theorem d27_4 : decode jdk_67_method_93_code 4 = .ok (.ireturn, 1) := by decide +kernel
theorem w219 {Z : State} {a0 : Array Value} (hw : ∀ d ∈ tables_1, d.before a0 Z = true) : (Jvm.Cond.code ({ cls := "java/lang/StringBuilder", name := "length", desc := "()I" } : Jvm.MethodName) jdk_67_method_93_code (1 : Nat) (Option.some Jvm.ClassFile.FieldType.int)).before a0 Z = true := hw _ (List.mem_of_getElem? (i := 219) rfl)
theorem w214 {Z : State} {a0 : Array Value} (hw : ∀ d ∈ tables_1, d.before a0 Z = true) : (Jvm.Cond.methodLink "java/lang/String" (549 : Nat) ({ cls := "java/lang/AbstractStringBuilder", name := "length", desc := "()I" } : Jvm.MethodName)).before a0 Z = true := hw _ (List.mem_of_getElem? (i := 214) rfl)
theorem w217 {Z : State} {a0 : Array Value} (hw : ∀ d ∈ tables_1, d.before a0 Z = true) : (Jvm.Cond.selects "java/lang/StringBuilder" ({ cls := "java/lang/AbstractStringBuilder", name := "length", desc := "()I" } : Jvm.MethodName) ({ cls := "java/lang/StringBuilder", name := "length", desc := "()I" } : Jvm.MethodName)).before a0 Z = true := hw _ (List.mem_of_getElem? (i := 217) rfl)
theorem w215 {Z : State} {a0 : Array Value} (hw : ∀ d ∈ tables_1, d.before a0 Z = true) : (Jvm.Cond.declares ({ cls := "java/lang/AbstractStringBuilder", name := "length", desc := "()I" } : Jvm.MethodName)).before a0 Z = true := hw _ (List.mem_of_getElem? (i := 215) rfl)
theorem w218 {Z : State} {a0 : Array Value} (hw : ∀ d ∈ tables_1, d.before a0 Z = true) : (Jvm.Cond.instanceMethod ({ cls := "java/lang/StringBuilder", name := "length", desc := "()I" } : Jvm.MethodName)).before a0 Z = true := hw _ (List.mem_of_getElem? (i := 218) rfl)
theorem d25_13 : decode jdk_42_method_150_code 13 = .ok (.istore 4, 2) := by decide +kernel
theorem d25_15 : decode jdk_42_method_150_code 15 = .ok (.aload_n 1, 1) := by decide +kernel
theorem d25_16 : decode jdk_42_method_150_code 16 = .ok (.invokevirtual 1047, 3) := by decide +kernel
theorem d29_0 : decode jdk_68_method_68_code 0 = .ok (.getstatic 18, 3) := by decide +kernel
theorem d29_3 : decode jdk_68_method_68_code 3 = .ok (.ifCond .eq 14, 3) := by decide +kernel
theorem d29_6 : decode jdk_68_method_68_code 6 = .ok (.aload_n 0, 1) := by decide +kernel
theorem d29_7 : decode jdk_68_method_68_code 7 = .ok (.getfield 22, 3) := by decide +kernel
theorem d29_10 : decode jdk_68_method_68_code 10 = .ok (.ifCond .ne 7, 3) := by decide +kernel
theorem d29_13 : decode jdk_68_method_68_code 13 = .ok (.iconst 1, 1) := by decide +kernel
theorem d29_14 : decode jdk_68_method_68_code 14 = .ok (.goto 4, 3) := by decide +kernel
theorem d29_18 : decode jdk_68_method_68_code 18 = .ok (.ireturn, 1) := by decide +kernel
theorem w226 {Z : State} {a0 : Array Value} (hw : ∀ d ∈ tables_1, d.before a0 Z = true) : (Jvm.Cond.code ({ cls := "java/lang/AbstractStringBuilder", name := "isLatin1", desc := "()Z" } : Jvm.MethodName) jdk_68_method_68_code (1 : Nat) (Option.some Jvm.ClassFile.FieldType.boolean)).before a0 Z = true := hw _ (List.mem_of_getElem? (i := 226) rfl)
theorem w222 {Z : State} {a0 : Array Value} (hw : ∀ d ∈ tables_1, d.before a0 Z = true) : (Jvm.Cond.methodLink "java/lang/String" (1047 : Nat) ({ cls := "java/lang/AbstractStringBuilder", name := "isLatin1", desc := "()Z" } : Jvm.MethodName)).before a0 Z = true := hw _ (List.mem_of_getElem? (i := 222) rfl)
theorem w225 {Z : State} {a0 : Array Value} (hw : ∀ d ∈ tables_1, d.before a0 Z = true) : (Jvm.Cond.selects "java/lang/StringBuilder" ({ cls := "java/lang/AbstractStringBuilder", name := "isLatin1", desc := "()Z" } : Jvm.MethodName) ({ cls := "java/lang/AbstractStringBuilder", name := "isLatin1", desc := "()Z" } : Jvm.MethodName)).before a0 Z = true := hw _ (List.mem_of_getElem? (i := 225) rfl)
theorem w223 {Z : State} {a0 : Array Value} (hw : ∀ d ∈ tables_1, d.before a0 Z = true) : (Jvm.Cond.declares ({ cls := "java/lang/AbstractStringBuilder", name := "isLatin1", desc := "()Z" } : Jvm.MethodName)).before a0 Z = true := hw _ (List.mem_of_getElem? (i := 223) rfl)
theorem w224 {Z : State} {a0 : Array Value} (hw : ∀ d ∈ tables_1, d.before a0 Z = true) : (Jvm.Cond.instanceMethod ({ cls := "java/lang/AbstractStringBuilder", name := "isLatin1", desc := "()Z" } : Jvm.MethodName)).before a0 Z = true := hw _ (List.mem_of_getElem? (i := 224) rfl)
theorem d25_19 : decode jdk_42_method_150_code 19 = .ok (.ifCond .eq 22, 3) := by decide +kernel
theorem d25_22 : decode jdk_42_method_150_code 22 = .ok (.aload_n 0, 1) := by decide +kernel
theorem d25_23 : decode jdk_42_method_150_code 23 = .ok (.iconst 0, 1) := by decide +kernel
theorem d25_24 : decode jdk_42_method_150_code 24 = .ok (.putfield 15, 3) := by decide +kernel
theorem d25_27 : decode jdk_42_method_150_code 27 = .ok (.aload_n 0, 1) := by decide +kernel
theorem d25_28 : decode jdk_42_method_150_code 28 = .ok (.aload_n 3, 1) := by decide +kernel
theorem d25_29 : decode jdk_42_method_150_code 29 = .ok (.iconst 0, 1) := by decide +kernel
theorem d25_30 : decode jdk_42_method_150_code 30 = .ok (.iload 4, 2) := by decide +kernel
theorem d25_32 : decode jdk_42_method_150_code 32 = .ok (.invokestatic 54, 3) := by decide +kernel
theorem pn_java_util_Arrays : plainName "java/util/Arrays" = true := by first | (simp [plainName, overriddenIn]; done) | decide +kernel
theorem d30_0 : decode jdk_65_method_132_code 0 = .ok (.iload_n 1, 1) := by decide +kernel
theorem d30_1 : decode jdk_65_method_132_code 1 = .ok (.ifCond .ne 9, 3) := by decide +kernel
theorem d30_4 : decode jdk_65_method_132_code 4 = .ok (.iload_n 2, 1) := by decide +kernel
theorem d30_5 : decode jdk_65_method_132_code 5 = .ok (.aload_n 0, 1) := by decide +kernel
theorem d30_6 : decode jdk_65_method_132_code 6 = .ok (.arraylength, 1) := by decide +kernel
theorem d30_7 : decode jdk_65_method_132_code 7 = .ok (.if_icmp .eq 10, 3) := by decide +kernel
theorem d30_10 : decode jdk_65_method_132_code 10 = .ok (.aload_n 0, 1) := by decide +kernel
theorem d30_11 : decode jdk_65_method_132_code 11 = .ok (.iload_n 1, 1) := by decide +kernel
theorem d30_12 : decode jdk_65_method_132_code 12 = .ok (.iload_n 2, 1) := by decide +kernel
theorem d30_13 : decode jdk_65_method_132_code 13 = .ok (.invokestatic 339, 3) := by decide +kernel
theorem d31_0 : decode jdk_65_method_133_code 0 = .ok (.iload_n 1, 1) := by decide +kernel
theorem d31_1 : decode jdk_65_method_133_code 1 = .ok (.iload_n 2, 1) := by decide +kernel
theorem d31_2 : decode jdk_65_method_133_code 2 = .ok (.invokestatic 343, 3) := by decide +kernel
theorem d32_0 : decode jdk_65_method_131_code 0 = .ok (.iload_n 1, 1) := by decide +kernel
theorem d32_1 : decode jdk_65_method_131_code 1 = .ok (.iload_n 0, 1) := by decide +kernel
theorem d32_2 : decode jdk_65_method_131_code 2 = .ok (.if_icmp .ge 35, 3) := by decide +kernel
theorem d32_37 : decode jdk_65_method_131_code 37 = .ok (.return_, 1) := by decide +kernel
theorem w236 {Z : State} {a0 : Array Value} (hw : ∀ d ∈ tables_1, d.before a0 Z = true) : (Jvm.Cond.code ({ cls := "java/util/Arrays", name := "checkLength", desc := "(II)V" } : Jvm.MethodName) jdk_65_method_131_code (2 : Nat) (Option.none : Option Jvm.ClassFile.FieldType)).before a0 Z = true := hw _ (List.mem_of_getElem? (i := 236) rfl)
theorem w229 {Z : State} {a0 : Array Value} (hw : ∀ d ∈ tables_1, d.before a0 Z = true) : (Jvm.Cond.initialized "java/util/Arrays").before a0 Z = true := hw _ (List.mem_of_getElem? (i := 229) rfl)
theorem pd_12 : parseMethodDescriptor "(II)V" = some ⟨[.int, .int], none⟩ := by decide +kernel
theorem w234 {Z : State} {a0 : Array Value} (hw : ∀ d ∈ tables_1, d.before a0 Z = true) : (Jvm.Cond.methodLink "java/util/Arrays" (343 : Nat) ({ cls := "java/util/Arrays", name := "checkLength", desc := "(II)V" } : Jvm.MethodName)).before a0 Z = true := hw _ (List.mem_of_getElem? (i := 234) rfl)
theorem w235 {Z : State} {a0 : Array Value} (hw : ∀ d ∈ tables_1, d.before a0 Z = true) : (Jvm.Cond.static ({ cls := "java/util/Arrays", name := "checkLength", desc := "(II)V" } : Jvm.MethodName)).before a0 Z = true := hw _ (List.mem_of_getElem? (i := 235) rfl)
theorem d31_5 : decode jdk_65_method_133_code 5 = .ok (.iload_n 2, 1) := by decide +kernel
theorem d31_6 : decode jdk_65_method_133_code 6 = .ok (.iload_n 1, 1) := by decide +kernel
theorem d31_7 : decode jdk_65_method_133_code 7 = .ok (.isub, 1) := by decide +kernel
theorem d31_8 : decode jdk_65_method_133_code 8 = .ok (.istore_n 3, 1) := by decide +kernel
theorem d31_9 : decode jdk_65_method_133_code 9 = .ok (.iload_n 3, 1) := by decide +kernel
theorem d31_10 : decode jdk_65_method_133_code 10 = .ok (.newarray .byte, 2) := by decide +kernel
theorem d31_12 : decode jdk_65_method_133_code 12 = .ok (.astore 4, 2) := by decide +kernel
theorem d31_14 : decode jdk_65_method_133_code 14 = .ok (.aload_n 0, 1) := by decide +kernel
theorem d31_15 : decode jdk_65_method_133_code 15 = .ok (.iload_n 1, 1) := by decide +kernel
theorem d31_16 : decode jdk_65_method_133_code 16 = .ok (.aload 4, 2) := by decide +kernel
theorem d31_18 : decode jdk_65_method_133_code 18 = .ok (.iconst 0, 1) := by decide +kernel
theorem d31_19 : decode jdk_65_method_133_code 19 = .ok (.aload_n 0, 1) := by decide +kernel
theorem d31_20 : decode jdk_65_method_133_code 20 = .ok (.arraylength, 1) := by decide +kernel
theorem d31_21 : decode jdk_65_method_133_code 21 = .ok (.iload_n 1, 1) := by decide +kernel
theorem d31_22 : decode jdk_65_method_133_code 22 = .ok (.isub, 1) := by decide +kernel
theorem d31_23 : decode jdk_65_method_133_code 23 = .ok (.iload_n 3, 1) := by decide +kernel
theorem d31_24 : decode jdk_65_method_133_code 24 = .ok (.invokestatic 304, 3) := by decide +kernel
theorem d33_0 : decode jdk_29_method_69_code 0 = .ok (.iload_n 0, 1) := by decide +kernel
theorem d33_1 : decode jdk_29_method_69_code 1 = .ok (.iload_n 1, 1) := by decide +kernel
theorem d33_2 : decode jdk_29_method_69_code 2 = .ok (.if_icmp .gt 7, 3) := by decide +kernel
theorem d33_9 : decode jdk_29_method_69_code 9 = .ok (.iload_n 1, 1) := by decide +kernel
theorem d33_10 : decode jdk_29_method_69_code 10 = .ok (.ireturn, 1) := by decide +kernel
theorem w240 {Z : State} {a0 : Array Value} (hw : ∀ d ∈ tables_1, d.before a0 Z = true) : (Jvm.Cond.code ({ cls := "java/lang/Math", name := "min", desc := "(II)I" } : Jvm.MethodName) jdk_29_method_69_code (2 : Nat) (Option.some Jvm.ClassFile.FieldType.int)).before a0 Z = true := hw _ (List.mem_of_getElem? (i := 240) rfl)
theorem w239 {Z : State} {a0 : Array Value} (hw : ∀ d ∈ tables_1, d.before a0 Z = true) : (Jvm.Cond.initialized "java/lang/Math").before a0 Z = true := hw _ (List.mem_of_getElem? (i := 239) rfl)
theorem pd_13 : parseMethodDescriptor "(II)I" = some ⟨[.int, .int], some .int⟩ := by decide +kernel
theorem w237 {Z : State} {a0 : Array Value} (hw : ∀ d ∈ tables_1, d.before a0 Z = true) : (Jvm.Cond.methodLink "java/util/Arrays" (304 : Nat) ({ cls := "java/lang/Math", name := "min", desc := "(II)I" } : Jvm.MethodName)).before a0 Z = true := hw _ (List.mem_of_getElem? (i := 237) rfl)
theorem w238 {Z : State} {a0 : Array Value} (hw : ∀ d ∈ tables_1, d.before a0 Z = true) : (Jvm.Cond.static ({ cls := "java/lang/Math", name := "min", desc := "(II)I" } : Jvm.MethodName)).before a0 Z = true := hw _ (List.mem_of_getElem? (i := 238) rfl)
theorem d31_27 : decode jdk_65_method_133_code 27 = .ok (.invokestatic 150, 3) := by decide +kernel
theorem w241 {Z : State} {a0 : Array Value} (hw : ∀ d ∈ tables_1, d.before a0 Z = true) : (Jvm.Cond.methodLink "java/util/Arrays" (150 : Nat) ({ cls := "java/lang/System", name := "arraycopy", desc := "(Ljava/lang/Object;ILjava/lang/Object;II)V" } : Jvm.MethodName)).before a0 Z = true := hw _ (List.mem_of_getElem? (i := 241) rfl)
theorem d31_30 : decode jdk_65_method_133_code 30 = .ok (.aload 4, 2) := by decide +kernel
theorem d31_32 : decode jdk_65_method_133_code 32 = .ok (.areturn, 1) := by decide +kernel
theorem w233 {Z : State} {a0 : Array Value} (hw : ∀ d ∈ tables_1, d.before a0 Z = true) : (Jvm.Cond.code ({ cls := "java/util/Arrays", name := "copyOfRangeByte", desc := "([BII)[B" } : Jvm.MethodName) jdk_65_method_133_code (5 : Nat) (Option.some (Jvm.ClassFile.FieldType.array Jvm.ClassFile.FieldType.byte))).before a0 Z = true := hw _ (List.mem_of_getElem? (i := 233) rfl)
theorem pd_14 : parseMethodDescriptor "([BII)[B" = some ⟨[(.array .byte), .int, .int], some (.array .byte)⟩ := by decide +kernel
theorem w231 {Z : State} {a0 : Array Value} (hw : ∀ d ∈ tables_1, d.before a0 Z = true) : (Jvm.Cond.methodLink "java/util/Arrays" (339 : Nat) ({ cls := "java/util/Arrays", name := "copyOfRangeByte", desc := "([BII)[B" } : Jvm.MethodName)).before a0 Z = true := hw _ (List.mem_of_getElem? (i := 231) rfl)
theorem w232 {Z : State} {a0 : Array Value} (hw : ∀ d ∈ tables_1, d.before a0 Z = true) : (Jvm.Cond.static ({ cls := "java/util/Arrays", name := "copyOfRangeByte", desc := "([BII)[B" } : Jvm.MethodName)).before a0 Z = true := hw _ (List.mem_of_getElem? (i := 232) rfl)
theorem d30_16 : decode jdk_65_method_132_code 16 = .ok (.areturn, 1) := by decide +kernel
theorem w230 {Z : State} {a0 : Array Value} (hw : ∀ d ∈ tables_1, d.before a0 Z = true) : (Jvm.Cond.code ({ cls := "java/util/Arrays", name := "copyOfRange", desc := "([BII)[B" } : Jvm.MethodName) jdk_65_method_132_code (3 : Nat) (Option.some (Jvm.ClassFile.FieldType.array Jvm.ClassFile.FieldType.byte))).before a0 Z = true := hw _ (List.mem_of_getElem? (i := 230) rfl)
theorem w227 {Z : State} {a0 : Array Value} (hw : ∀ d ∈ tables_1, d.before a0 Z = true) : (Jvm.Cond.methodLink "java/lang/String" (54 : Nat) ({ cls := "java/util/Arrays", name := "copyOfRange", desc := "([BII)[B" } : Jvm.MethodName)).before a0 Z = true := hw _ (List.mem_of_getElem? (i := 227) rfl)
theorem w228 {Z : State} {a0 : Array Value} (hw : ∀ d ∈ tables_1, d.before a0 Z = true) : (Jvm.Cond.static ({ cls := "java/util/Arrays", name := "copyOfRange", desc := "([BII)[B" } : Jvm.MethodName)).before a0 Z = true := hw _ (List.mem_of_getElem? (i := 228) rfl)
theorem d25_35 : decode jdk_42_method_150_code 35 = .ok (.putfield 9, 3) := by decide +kernel
theorem d25_38 : decode jdk_42_method_150_code 38 = .ok (.goto 59, 3) := by decide +kernel
theorem d25_97 : decode jdk_42_method_150_code 97 = .ok (.return_, 1) := by decide +kernel
theorem w208 {Z : State} {a0 : Array Value} (hw : ∀ d ∈ tables_1, d.before a0 Z = true) : (Jvm.Cond.code ({ cls := "java/lang/String", name := "<init>", desc := "(Ljava/lang/AbstractStringBuilder;Ljava/lang/Void;)V" } : Jvm.MethodName) jdk_42_method_150_code (5 : Nat) (Option.none : Option Jvm.ClassFile.FieldType)).before a0 Z = true := hw _ (List.mem_of_getElem? (i := 208) rfl)
theorem pd_15 : parseMethodDescriptor "(Ljava/lang/AbstractStringBuilder;Ljava/lang/Void;)V" = some ⟨[(.object "java/lang/AbstractStringBuilder"), (.object "java/lang/Void")], none⟩ := by decide +kernel
theorem w206 {Z : State} {a0 : Array Value} (hw : ∀ d ∈ tables_1, d.before a0 Z = true) : (Jvm.Cond.methodLink "java/lang/String" (489 : Nat) ({ cls := "java/lang/String", name := "<init>", desc := "(Ljava/lang/AbstractStringBuilder;Ljava/lang/Void;)V" } : Jvm.MethodName)).before a0 Z = true := hw _ (List.mem_of_getElem? (i := 206) rfl)
theorem w207 {Z : State} {a0 : Array Value} (hw : ∀ d ∈ tables_1, d.before a0 Z = true) : (Jvm.Cond.instanceMethod ({ cls := "java/lang/String", name := "<init>", desc := "(Ljava/lang/AbstractStringBuilder;Ljava/lang/Void;)V" } : Jvm.MethodName)).before a0 Z = true := hw _ (List.mem_of_getElem? (i := 207) rfl)
theorem d24_6 : decode jdk_42_method_53_code 6 = .ok (.return_, 1) := by decide +kernel
theorem w205 {Z : State} {a0 : Array Value} (hw : ∀ d ∈ tables_1, d.before a0 Z = true) : (Jvm.Cond.code ({ cls := "java/lang/String", name := "<init>", desc := "(Ljava/lang/StringBuilder;)V" } : Jvm.MethodName) jdk_42_method_53_code (2 : Nat) (Option.none : Option Jvm.ClassFile.FieldType)).before a0 Z = true := hw _ (List.mem_of_getElem? (i := 205) rfl)
theorem pd_16 : parseMethodDescriptor "(Ljava/lang/StringBuilder;)V" = some ⟨[(.object "java/lang/StringBuilder")], none⟩ := by decide +kernel
theorem w203 {Z : State} {a0 : Array Value} (hw : ∀ d ∈ tables_1, d.before a0 Z = true) : (Jvm.Cond.methodLink "java/lang/StringBuilder" (137 : Nat) ({ cls := "java/lang/String", name := "<init>", desc := "(Ljava/lang/StringBuilder;)V" } : Jvm.MethodName)).before a0 Z = true := hw _ (List.mem_of_getElem? (i := 203) rfl)
theorem w204 {Z : State} {a0 : Array Value} (hw : ∀ d ∈ tables_1, d.before a0 Z = true) : (Jvm.Cond.instanceMethod ({ cls := "java/lang/String", name := "<init>", desc := "(Ljava/lang/StringBuilder;)V" } : Jvm.MethodName)).before a0 Z = true := hw _ (List.mem_of_getElem? (i := 204) rfl)
theorem d23_8 : decode jdk_67_method_42_code 8 = .ok (.areturn, 1) := by decide +kernel
theorem w201 {Z : State} {a0 : Array Value} (hw : ∀ d ∈ tables_1, d.before a0 Z = true) : (Jvm.Cond.code ({ cls := "java/lang/StringBuilder", name := "toString", desc := "()Ljava/lang/String;" } : Jvm.MethodName) jdk_67_method_42_code (1 : Nat) (Option.some (Jvm.ClassFile.FieldType.object "java/lang/String"))).before a0 Z = true := hw _ (List.mem_of_getElem? (i := 201) rfl)
theorem pd_17 : parseMethodDescriptor "()Ljava/lang/String;" = some ⟨[], some (.object "java/lang/String")⟩ := by decide +kernel
theorem w197 {Z : State} {a0 : Array Value} (hw : ∀ d ∈ tables_1, d.before a0 Z = true) : (Jvm.Cond.methodLink "com/example/tuplet/tuplet/Commands$Option" (55 : Nat) ({ cls := "java/lang/StringBuilder", name := "toString", desc := "()Ljava/lang/String;" } : Jvm.MethodName)).before a0 Z = true := hw _ (List.mem_of_getElem? (i := 197) rfl)
theorem w200 {Z : State} {a0 : Array Value} (hw : ∀ d ∈ tables_1, d.before a0 Z = true) : (Jvm.Cond.selects "java/lang/StringBuilder" ({ cls := "java/lang/StringBuilder", name := "toString", desc := "()Ljava/lang/String;" } : Jvm.MethodName) ({ cls := "java/lang/StringBuilder", name := "toString", desc := "()Ljava/lang/String;" } : Jvm.MethodName)).before a0 Z = true := hw _ (List.mem_of_getElem? (i := 200) rfl)
theorem w198 {Z : State} {a0 : Array Value} (hw : ∀ d ∈ tables_1, d.before a0 Z = true) : (Jvm.Cond.declares ({ cls := "java/lang/StringBuilder", name := "toString", desc := "()Ljava/lang/String;" } : Jvm.MethodName)).before a0 Z = true := hw _ (List.mem_of_getElem? (i := 198) rfl)
theorem w199 {Z : State} {a0 : Array Value} (hw : ∀ d ∈ tables_1, d.before a0 Z = true) : (Jvm.Cond.instanceMethod ({ cls := "java/lang/StringBuilder", name := "toString", desc := "()Ljava/lang/String;" } : Jvm.MethodName)).before a0 Z = true := hw _ (List.mem_of_getElem? (i := 199) rfl)
theorem w3 {Z : State} {a0 : Array Value} (hw : ∀ d ∈ tables_1, d.before a0 Z = true) : (Jvm.Cond.code ({ cls := "com/example/tuplet/tuplet/OptionOfPinLaw", name := "kindOf", desc := "(I)Lcom/example/tuplet/tuplet/Commands$Kind;" } : Jvm.MethodName) method_2_code (2 : Nat) (Option.some (Jvm.ClassFile.FieldType.object "com/example/tuplet/tuplet/Commands$Kind"))).before a0 Z = true := hw _ (List.mem_of_getElem? (i := 3) rfl)
theorem w2 {Z : State} {a0 : Array Value} (hw : ∀ d ∈ tables_1, d.before a0 Z = true) : (Jvm.Cond.initialized "com/example/tuplet/tuplet/OptionOfPinLaw").before a0 Z = true := hw _ (List.mem_of_getElem? (i := 2) rfl)
theorem pd_18 : parseMethodDescriptor "(I)Lcom/example/tuplet/tuplet/Commands$Kind;" = some ⟨[.int], some (.object "com/example/tuplet/tuplet/Commands$Kind")⟩ := by decide +kernel
theorem w0 {Z : State} {a0 : Array Value} (hw : ∀ d ∈ tables_1, d.before a0 Z = true) : (Jvm.Cond.methodLink "com/example/tuplet/tuplet/OptionOfPinLaw" (26 : Nat) ({ cls := "com/example/tuplet/tuplet/OptionOfPinLaw", name := "kindOf", desc := "(I)Lcom/example/tuplet/tuplet/Commands$Kind;" } : Jvm.MethodName)).before a0 Z = true := hw _ (List.mem_of_getElem? (i := 0) rfl)
theorem w1 {Z : State} {a0 : Array Value} (hw : ∀ d ∈ tables_1, d.before a0 Z = true) : (Jvm.Cond.static ({ cls := "com/example/tuplet/tuplet/OptionOfPinLaw", name := "kindOf", desc := "(I)Lcom/example/tuplet/tuplet/Commands$Kind;" } : Jvm.MethodName)).before a0 Z = true := hw _ (List.mem_of_getElem? (i := 1) rfl)
theorem w8 {Z : State} {a0 : Array Value} (hw : ∀ d ∈ tables_1, d.before a0 Z = true) : (Jvm.Cond.arrayClass Jvm.ClassFile.FieldType.char).before a0 Z = true := hw _ (List.mem_of_getElem? (i := 8) rfl)
theorem w9 {Z : State} {a0 : Array Value} (hw : ∀ d ∈ tables_1, d.before a0 Z = true) : (Jvm.Cond.classLink "com/example/tuplet/tuplet/OptionOfPinLaw" (32 : Nat) "java/lang/String").before a0 Z = true := hw _ (List.mem_of_getElem? (i := 9) rfl)
theorem pd_19 : parseMethodDescriptor "([C)V" = some ⟨[(.array .char)], none⟩ := by decide +kernel
theorem w12 {Z : State} {a0 : Array Value} (hw : ∀ d ∈ tables_1, d.before a0 Z = true) : (Jvm.Cond.methodLink "com/example/tuplet/tuplet/OptionOfPinLaw" (34 : Nat) ({ cls := "java/lang/String", name := "<init>", desc := "([C)V" } : Jvm.MethodName)).before a0 Z = true := hw _ (List.mem_of_getElem? (i := 12) rfl)
theorem w13 {Z : State} {a0 : Array Value} (hw : ∀ d ∈ tables_1, d.before a0 Z = true) : (Jvm.Cond.instanceMethod ({ cls := "java/lang/String", name := "<init>", desc := "([C)V" } : Jvm.MethodName)).before a0 Z = true := hw _ (List.mem_of_getElem? (i := 13) rfl)
theorem w14 {Z : State} {a0 : Array Value} (hw : ∀ d ∈ tables_1, d.before a0 Z = true) : (Jvm.Cond.code ({ cls := "java/lang/String", name := "<init>", desc := "([C)V" } : Jvm.MethodName) jdk_42_method_3_code (2 : Nat) (Option.none : Option Jvm.ClassFile.FieldType)).before a0 Z = true := hw _ (List.mem_of_getElem? (i := 14) rfl)
theorem w44 {Z : State} {a0 : Array Value} (hw : ∀ d ∈ tables_1, d.before a0 Z = true) : (Jvm.Cond.code ({ cls := "com/example/tuplet/tuplet/Commands$Option", name := "of", desc := "(Ljava/lang/String;Lcom/example/tuplet/tuplet/Commands$Kind;Ljava/lang/String;Ljava/lang/String;)Lcom/example/tuplet/tuplet/Commands$Option;" } : Jvm.MethodName) prog_6_method_3_code (4 : Nat) (Option.some (Jvm.ClassFile.FieldType.object "com/example/tuplet/tuplet/Commands$Option"))).before a0 Z = true := hw _ (List.mem_of_getElem? (i := 44) rfl)
theorem pd_20 : parseMethodDescriptor "(Ljava/lang/String;Lcom/example/tuplet/tuplet/Commands$Kind;Ljava/lang/String;Ljava/lang/String;)Lcom/example/tuplet/tuplet/Commands$Option;" = some ⟨[(.object "java/lang/String"), (.object "com/example/tuplet/tuplet/Commands$Kind"), (.object "java/lang/String"), (.object "java/lang/String")], some (.object "com/example/tuplet/tuplet/Commands$Option")⟩ := by decide +kernel
theorem w41 {Z : State} {a0 : Array Value} (hw : ∀ d ∈ tables_1, d.before a0 Z = true) : (Jvm.Cond.methodLink "com/example/tuplet/tuplet/OptionOfPinLaw" (43 : Nat) ({ cls := "com/example/tuplet/tuplet/Commands$Option", name := "of", desc := "(Ljava/lang/String;Lcom/example/tuplet/tuplet/Commands$Kind;Ljava/lang/String;Ljava/lang/String;)Lcom/example/tuplet/tuplet/Commands$Option;" } : Jvm.MethodName)).before a0 Z = true := hw _ (List.mem_of_getElem? (i := 41) rfl)
theorem w42 {Z : State} {a0 : Array Value} (hw : ∀ d ∈ tables_1, d.before a0 Z = true) : (Jvm.Cond.static ({ cls := "com/example/tuplet/tuplet/Commands$Option", name := "of", desc := "(Ljava/lang/String;Lcom/example/tuplet/tuplet/Commands$Kind;Ljava/lang/String;Ljava/lang/String;)Lcom/example/tuplet/tuplet/Commands$Option;" } : Jvm.MethodName)).before a0 Z = true := hw _ (List.mem_of_getElem? (i := 42) rfl)
theorem w72 {Z : State} {a0 : Array Value} (hw : ∀ d ∈ tables_1, d.before a0 Z = true) : (Jvm.Cond.code ({ cls := "com/example/tuplet/tuplet/Commands$Option", name := "name", desc := "()Ljava/lang/String;" } : Jvm.MethodName) prog_6_method_10_code (1 : Nat) (Option.some (Jvm.ClassFile.FieldType.object "java/lang/String"))).before a0 Z = true := hw _ (List.mem_of_getElem? (i := 72) rfl)
theorem w68 {Z : State} {a0 : Array Value} (hw : ∀ d ∈ tables_1, d.before a0 Z = true) : (Jvm.Cond.methodLink "com/example/tuplet/tuplet/OptionOfPinLaw" (49 : Nat) ({ cls := "com/example/tuplet/tuplet/Commands$Option", name := "name", desc := "()Ljava/lang/String;" } : Jvm.MethodName)).before a0 Z = true := hw _ (List.mem_of_getElem? (i := 68) rfl)
theorem w71 {Z : State} {a0 : Array Value} (hw : ∀ d ∈ tables_1, d.before a0 Z = true) : (Jvm.Cond.selects "com/example/tuplet/tuplet/Commands$Option" ({ cls := "com/example/tuplet/tuplet/Commands$Option", name := "name", desc := "()Ljava/lang/String;" } : Jvm.MethodName) ({ cls := "com/example/tuplet/tuplet/Commands$Option", name := "name", desc := "()Ljava/lang/String;" } : Jvm.MethodName)).before a0 Z = true := hw _ (List.mem_of_getElem? (i := 71) rfl)
theorem w69 {Z : State} {a0 : Array Value} (hw : ∀ d ∈ tables_1, d.before a0 Z = true) : (Jvm.Cond.declares ({ cls := "com/example/tuplet/tuplet/Commands$Option", name := "name", desc := "()Ljava/lang/String;" } : Jvm.MethodName)).before a0 Z = true := hw _ (List.mem_of_getElem? (i := 69) rfl)
theorem w70 {Z : State} {a0 : Array Value} (hw : ∀ d ∈ tables_1, d.before a0 Z = true) : (Jvm.Cond.instanceMethod ({ cls := "com/example/tuplet/tuplet/Commands$Option", name := "name", desc := "()Ljava/lang/String;" } : Jvm.MethodName)).before a0 Z = true := hw _ (List.mem_of_getElem? (i := 70) rfl)
theorem w77 {Z : State} {a0 : Array Value} (hw : ∀ d ∈ tables_1, d.before a0 Z = true) : (Jvm.Cond.code ({ cls := "java/lang/String", name := "equals", desc := "(Ljava/lang/Object;)Z" } : Jvm.MethodName) jdk_42_method_66_code (3 : Nat) (Option.some Jvm.ClassFile.FieldType.boolean)).before a0 Z = true := hw _ (List.mem_of_getElem? (i := 77) rfl)
theorem pd_21 : parseMethodDescriptor "(Ljava/lang/Object;)Z" = some ⟨[(.object "java/lang/Object")], some .boolean⟩ := by decide +kernel
theorem w73 {Z : State} {a0 : Array Value} (hw : ∀ d ∈ tables_1, d.before a0 Z = true) : (Jvm.Cond.methodLink "com/example/tuplet/tuplet/OptionOfPinLaw" (53 : Nat) ({ cls := "java/lang/String", name := "equals", desc := "(Ljava/lang/Object;)Z" } : Jvm.MethodName)).before a0 Z = true := hw _ (List.mem_of_getElem? (i := 73) rfl)
theorem w74 {Z : State} {a0 : Array Value} (hw : ∀ d ∈ tables_1, d.before a0 Z = true) : (Jvm.Cond.declares ({ cls := "java/lang/String", name := "equals", desc := "(Ljava/lang/Object;)Z" } : Jvm.MethodName)).before a0 Z = true := hw _ (List.mem_of_getElem? (i := 74) rfl)
theorem w82 {Z : State} {a0 : Array Value} (hw : ∀ d ∈ tables_1, d.before a0 Z = true) : (Jvm.Cond.code ({ cls := "com/example/tuplet/tuplet/Commands$Option", name := "kind", desc := "()Lcom/example/tuplet/tuplet/Commands$Kind;" } : Jvm.MethodName) prog_6_method_11_code (1 : Nat) (Option.some (Jvm.ClassFile.FieldType.object "com/example/tuplet/tuplet/Commands$Kind"))).before a0 Z = true := hw _ (List.mem_of_getElem? (i := 82) rfl)
theorem pd_22 : parseMethodDescriptor "()Lcom/example/tuplet/tuplet/Commands$Kind;" = some ⟨[], some (.object "com/example/tuplet/tuplet/Commands$Kind")⟩ := by decide +kernel
theorem w78 {Z : State} {a0 : Array Value} (hw : ∀ d ∈ tables_1, d.before a0 Z = true) : (Jvm.Cond.methodLink "com/example/tuplet/tuplet/OptionOfPinLaw" (57 : Nat) ({ cls := "com/example/tuplet/tuplet/Commands$Option", name := "kind", desc := "()Lcom/example/tuplet/tuplet/Commands$Kind;" } : Jvm.MethodName)).before a0 Z = true := hw _ (List.mem_of_getElem? (i := 78) rfl)
theorem w81 {Z : State} {a0 : Array Value} (hw : ∀ d ∈ tables_1, d.before a0 Z = true) : (Jvm.Cond.selects "com/example/tuplet/tuplet/Commands$Option" ({ cls := "com/example/tuplet/tuplet/Commands$Option", name := "kind", desc := "()Lcom/example/tuplet/tuplet/Commands$Kind;" } : Jvm.MethodName) ({ cls := "com/example/tuplet/tuplet/Commands$Option", name := "kind", desc := "()Lcom/example/tuplet/tuplet/Commands$Kind;" } : Jvm.MethodName)).before a0 Z = true := hw _ (List.mem_of_getElem? (i := 81) rfl)
theorem w79 {Z : State} {a0 : Array Value} (hw : ∀ d ∈ tables_1, d.before a0 Z = true) : (Jvm.Cond.declares ({ cls := "com/example/tuplet/tuplet/Commands$Option", name := "kind", desc := "()Lcom/example/tuplet/tuplet/Commands$Kind;" } : Jvm.MethodName)).before a0 Z = true := hw _ (List.mem_of_getElem? (i := 79) rfl)
theorem w80 {Z : State} {a0 : Array Value} (hw : ∀ d ∈ tables_1, d.before a0 Z = true) : (Jvm.Cond.instanceMethod ({ cls := "com/example/tuplet/tuplet/Commands$Option", name := "kind", desc := "()Lcom/example/tuplet/tuplet/Commands$Kind;" } : Jvm.MethodName)).before a0 Z = true := hw _ (List.mem_of_getElem? (i := 80) rfl)
theorem w87 {Z : State} {a0 : Array Value} (hw : ∀ d ∈ tables_1, d.before a0 Z = true) : (Jvm.Cond.code ({ cls := "com/example/tuplet/tuplet/Commands$Option", name := "label", desc := "()Ljava/lang/String;" } : Jvm.MethodName) prog_6_method_12_code (1 : Nat) (Option.some (Jvm.ClassFile.FieldType.object "java/lang/String"))).before a0 Z = true := hw _ (List.mem_of_getElem? (i := 87) rfl)
theorem w83 {Z : State} {a0 : Array Value} (hw : ∀ d ∈ tables_1, d.before a0 Z = true) : (Jvm.Cond.methodLink "com/example/tuplet/tuplet/OptionOfPinLaw" (61 : Nat) ({ cls := "com/example/tuplet/tuplet/Commands$Option", name := "label", desc := "()Ljava/lang/String;" } : Jvm.MethodName)).before a0 Z = true := hw _ (List.mem_of_getElem? (i := 83) rfl)
theorem w86 {Z : State} {a0 : Array Value} (hw : ∀ d ∈ tables_1, d.before a0 Z = true) : (Jvm.Cond.selects "com/example/tuplet/tuplet/Commands$Option" ({ cls := "com/example/tuplet/tuplet/Commands$Option", name := "label", desc := "()Ljava/lang/String;" } : Jvm.MethodName) ({ cls := "com/example/tuplet/tuplet/Commands$Option", name := "label", desc := "()Ljava/lang/String;" } : Jvm.MethodName)).before a0 Z = true := hw _ (List.mem_of_getElem? (i := 86) rfl)
theorem w84 {Z : State} {a0 : Array Value} (hw : ∀ d ∈ tables_1, d.before a0 Z = true) : (Jvm.Cond.declares ({ cls := "com/example/tuplet/tuplet/Commands$Option", name := "label", desc := "()Ljava/lang/String;" } : Jvm.MethodName)).before a0 Z = true := hw _ (List.mem_of_getElem? (i := 84) rfl)
theorem w85 {Z : State} {a0 : Array Value} (hw : ∀ d ∈ tables_1, d.before a0 Z = true) : (Jvm.Cond.instanceMethod ({ cls := "com/example/tuplet/tuplet/Commands$Option", name := "label", desc := "()Ljava/lang/String;" } : Jvm.MethodName)).before a0 Z = true := hw _ (List.mem_of_getElem? (i := 85) rfl)
theorem w92 {Z : State} {a0 : Array Value} (hw : ∀ d ∈ tables_1, d.before a0 Z = true) : (Jvm.Cond.code ({ cls := "com/example/tuplet/tuplet/Commands$Option", name := "help", desc := "()Ljava/lang/String;" } : Jvm.MethodName) prog_6_method_13_code (1 : Nat) (Option.some (Jvm.ClassFile.FieldType.object "java/lang/String"))).before a0 Z = true := hw _ (List.mem_of_getElem? (i := 92) rfl)
theorem w88 {Z : State} {a0 : Array Value} (hw : ∀ d ∈ tables_1, d.before a0 Z = true) : (Jvm.Cond.methodLink "com/example/tuplet/tuplet/OptionOfPinLaw" (64 : Nat) ({ cls := "com/example/tuplet/tuplet/Commands$Option", name := "help", desc := "()Ljava/lang/String;" } : Jvm.MethodName)).before a0 Z = true := hw _ (List.mem_of_getElem? (i := 88) rfl)
theorem w91 {Z : State} {a0 : Array Value} (hw : ∀ d ∈ tables_1, d.before a0 Z = true) : (Jvm.Cond.selects "com/example/tuplet/tuplet/Commands$Option" ({ cls := "com/example/tuplet/tuplet/Commands$Option", name := "help", desc := "()Ljava/lang/String;" } : Jvm.MethodName) ({ cls := "com/example/tuplet/tuplet/Commands$Option", name := "help", desc := "()Ljava/lang/String;" } : Jvm.MethodName)).before a0 Z = true := hw _ (List.mem_of_getElem? (i := 91) rfl)
theorem w89 {Z : State} {a0 : Array Value} (hw : ∀ d ∈ tables_1, d.before a0 Z = true) : (Jvm.Cond.declares ({ cls := "com/example/tuplet/tuplet/Commands$Option", name := "help", desc := "()Ljava/lang/String;" } : Jvm.MethodName)).before a0 Z = true := hw _ (List.mem_of_getElem? (i := 89) rfl)
theorem w90 {Z : State} {a0 : Array Value} (hw : ∀ d ∈ tables_1, d.before a0 Z = true) : (Jvm.Cond.instanceMethod ({ cls := "com/example/tuplet/tuplet/Commands$Option", name := "help", desc := "()Ljava/lang/String;" } : Jvm.MethodName)).before a0 Z = true := hw _ (List.mem_of_getElem? (i := 90) rfl)
theorem w97 {Z : State} {a0 : Array Value} (hw : ∀ d ∈ tables_1, d.before a0 Z = true) : (Jvm.Cond.code ({ cls := "com/example/tuplet/tuplet/Commands$Option", name := "required", desc := "()Z" } : Jvm.MethodName) prog_6_method_14_code (1 : Nat) (Option.some Jvm.ClassFile.FieldType.boolean)).before a0 Z = true := hw _ (List.mem_of_getElem? (i := 97) rfl)
theorem w93 {Z : State} {a0 : Array Value} (hw : ∀ d ∈ tables_1, d.before a0 Z = true) : (Jvm.Cond.methodLink "com/example/tuplet/tuplet/OptionOfPinLaw" (67 : Nat) ({ cls := "com/example/tuplet/tuplet/Commands$Option", name := "required", desc := "()Z" } : Jvm.MethodName)).before a0 Z = true := hw _ (List.mem_of_getElem? (i := 93) rfl)
theorem w96 {Z : State} {a0 : Array Value} (hw : ∀ d ∈ tables_1, d.before a0 Z = true) : (Jvm.Cond.selects "com/example/tuplet/tuplet/Commands$Option" ({ cls := "com/example/tuplet/tuplet/Commands$Option", name := "required", desc := "()Z" } : Jvm.MethodName) ({ cls := "com/example/tuplet/tuplet/Commands$Option", name := "required", desc := "()Z" } : Jvm.MethodName)).before a0 Z = true := hw _ (List.mem_of_getElem? (i := 96) rfl)
theorem w94 {Z : State} {a0 : Array Value} (hw : ∀ d ∈ tables_1, d.before a0 Z = true) : (Jvm.Cond.declares ({ cls := "com/example/tuplet/tuplet/Commands$Option", name := "required", desc := "()Z" } : Jvm.MethodName)).before a0 Z = true := hw _ (List.mem_of_getElem? (i := 94) rfl)
theorem w95 {Z : State} {a0 : Array Value} (hw : ∀ d ∈ tables_1, d.before a0 Z = true) : (Jvm.Cond.instanceMethod ({ cls := "com/example/tuplet/tuplet/Commands$Option", name := "required", desc := "()Z" } : Jvm.MethodName)).before a0 Z = true := hw _ (List.mem_of_getElem? (i := 95) rfl)
theorem w102 {Z : State} {a0 : Array Value} (hw : ∀ d ∈ tables_1, d.before a0 Z = true) : (Jvm.Cond.code ({ cls := "com/example/tuplet/tuplet/Commands$Option", name := "byDefault", desc := "()Ljava/lang/String;" } : Jvm.MethodName) prog_6_method_15_code (1 : Nat) (Option.some (Jvm.ClassFile.FieldType.object "java/lang/String"))).before a0 Z = true := hw _ (List.mem_of_getElem? (i := 102) rfl)
theorem w98 {Z : State} {a0 : Array Value} (hw : ∀ d ∈ tables_1, d.before a0 Z = true) : (Jvm.Cond.methodLink "com/example/tuplet/tuplet/OptionOfPinLaw" (71 : Nat) ({ cls := "com/example/tuplet/tuplet/Commands$Option", name := "byDefault", desc := "()Ljava/lang/String;" } : Jvm.MethodName)).before a0 Z = true := hw _ (List.mem_of_getElem? (i := 98) rfl)
theorem w101 {Z : State} {a0 : Array Value} (hw : ∀ d ∈ tables_1, d.before a0 Z = true) : (Jvm.Cond.selects "com/example/tuplet/tuplet/Commands$Option" ({ cls := "com/example/tuplet/tuplet/Commands$Option", name := "byDefault", desc := "()Ljava/lang/String;" } : Jvm.MethodName) ({ cls := "com/example/tuplet/tuplet/Commands$Option", name := "byDefault", desc := "()Ljava/lang/String;" } : Jvm.MethodName)).before a0 Z = true := hw _ (List.mem_of_getElem? (i := 101) rfl)
theorem w99 {Z : State} {a0 : Array Value} (hw : ∀ d ∈ tables_1, d.before a0 Z = true) : (Jvm.Cond.declares ({ cls := "com/example/tuplet/tuplet/Commands$Option", name := "byDefault", desc := "()Ljava/lang/String;" } : Jvm.MethodName)).before a0 Z = true := hw _ (List.mem_of_getElem? (i := 99) rfl)
theorem w100 {Z : State} {a0 : Array Value} (hw : ∀ d ∈ tables_1, d.before a0 Z = true) : (Jvm.Cond.instanceMethod ({ cls := "com/example/tuplet/tuplet/Commands$Option", name := "byDefault", desc := "()Ljava/lang/String;" } : Jvm.MethodName)).before a0 Z = true := hw _ (List.mem_of_getElem? (i := 100) rfl)
theorem w107 {Z : State} {a0 : Array Value} (hw : ∀ d ∈ tables_1, d.before a0 Z = true) : (Jvm.Cond.code ({ cls := "com/example/tuplet/tuplet/Commands$Option", name := "shown", desc := "()Ljava/lang/String;" } : Jvm.MethodName) prog_6_method_6_code (1 : Nat) (Option.some (Jvm.ClassFile.FieldType.object "java/lang/String"))).before a0 Z = true := hw _ (List.mem_of_getElem? (i := 107) rfl)
theorem w103 {Z : State} {a0 : Array Value} (hw : ∀ d ∈ tables_1, d.before a0 Z = true) : (Jvm.Cond.methodLink "com/example/tuplet/tuplet/OptionOfPinLaw" (74 : Nat) ({ cls := "com/example/tuplet/tuplet/Commands$Option", name := "shown", desc := "()Ljava/lang/String;" } : Jvm.MethodName)).before a0 Z = true := hw _ (List.mem_of_getElem? (i := 103) rfl)
theorem w106 {Z : State} {a0 : Array Value} (hw : ∀ d ∈ tables_1, d.before a0 Z = true) : (Jvm.Cond.selects "com/example/tuplet/tuplet/Commands$Option" ({ cls := "com/example/tuplet/tuplet/Commands$Option", name := "shown", desc := "()Ljava/lang/String;" } : Jvm.MethodName) ({ cls := "com/example/tuplet/tuplet/Commands$Option", name := "shown", desc := "()Ljava/lang/String;" } : Jvm.MethodName)).before a0 Z = true := hw _ (List.mem_of_getElem? (i := 106) rfl)
theorem w104 {Z : State} {a0 : Array Value} (hw : ∀ d ∈ tables_1, d.before a0 Z = true) : (Jvm.Cond.declares ({ cls := "com/example/tuplet/tuplet/Commands$Option", name := "shown", desc := "()Ljava/lang/String;" } : Jvm.MethodName)).before a0 Z = true := hw _ (List.mem_of_getElem? (i := 104) rfl)
theorem w105 {Z : State} {a0 : Array Value} (hw : ∀ d ∈ tables_1, d.before a0 Z = true) : (Jvm.Cond.instanceMethod ({ cls := "com/example/tuplet/tuplet/Commands$Option", name := "shown", desc := "()Ljava/lang/String;" } : Jvm.MethodName)).before a0 Z = true := hw _ (List.mem_of_getElem? (i := 105) rfl)
theorem d34_0 : decode jdk_42_method_139_code 0 = .ok (.getstatic 38, 3) := by decide +kernel
theorem d34_3 : decode jdk_42_method_139_code 3 = .ok (.ifCond .eq 23, 3) := by decide +kernel
theorem d34_6 : decode jdk_42_method_139_code 6 = .ok (.iload_n 0, 1) := by decide +kernel
theorem d34_7 : decode jdk_42_method_139_code 7 = .ok (.invokestatic 1015, 3) := by decide +kernel
theorem pn_java_lang_StringLatin1 : plainName "java/lang/StringLatin1" = true := by first | (simp [plainName, overriddenIn]; done) | decide +kernel
theorem d35_0 : decode jdk_43_method_3_code 0 = .ok (.iload_n 0, 1) := by decide +kernel
theorem d35_1 : decode jdk_43_method_3_code 1 = .ok (.sipush 255, 3) := by decide +kernel
theorem d35_4 : decode jdk_43_method_3_code 4 = .ok (.if_icmp .gt 7, 3) := by decide +kernel
theorem d35_7 : decode jdk_43_method_3_code 7 = .ok (.iconst 1, 1) := by decide +kernel
theorem d35_8 : decode jdk_43_method_3_code 8 = .ok (.goto 4, 3) := by decide +kernel
theorem d35_12 : decode jdk_43_method_3_code 12 = .ok (.ireturn, 1) := by decide +kernel
theorem w123 {Z : State} {a0 : Array Value} (hw : ∀ d ∈ tables_1, d.before a0 Z = true) : (Jvm.Cond.code ({ cls := "java/lang/StringLatin1", name := "canEncode", desc := "(C)Z" } : Jvm.MethodName) jdk_43_method_3_code (1 : Nat) (Option.some Jvm.ClassFile.FieldType.boolean)).before a0 Z = true := hw _ (List.mem_of_getElem? (i := 123) rfl)
theorem w122 {Z : State} {a0 : Array Value} (hw : ∀ d ∈ tables_1, d.before a0 Z = true) : (Jvm.Cond.initialized "java/lang/StringLatin1").before a0 Z = true := hw _ (List.mem_of_getElem? (i := 122) rfl)
theorem pd_23 : parseMethodDescriptor "(C)Z" = some ⟨[.char], some .boolean⟩ := by decide +kernel
theorem w120 {Z : State} {a0 : Array Value} (hw : ∀ d ∈ tables_1, d.before a0 Z = true) : (Jvm.Cond.methodLink "java/lang/String" (1015 : Nat) ({ cls := "java/lang/StringLatin1", name := "canEncode", desc := "(C)Z" } : Jvm.MethodName)).before a0 Z = true := hw _ (List.mem_of_getElem? (i := 120) rfl)
theorem w121 {Z : State} {a0 : Array Value} (hw : ∀ d ∈ tables_1, d.before a0 Z = true) : (Jvm.Cond.static ({ cls := "java/lang/StringLatin1", name := "canEncode", desc := "(C)Z" } : Jvm.MethodName)).before a0 Z = true := hw _ (List.mem_of_getElem? (i := 121) rfl)
theorem d34_10 : decode jdk_42_method_139_code 10 = .ok (.ifCond .eq 16, 3) := by decide +kernel
theorem d34_13 : decode jdk_42_method_139_code 13 = .ok (.new 10, 3) := by decide +kernel
theorem w124 {Z : State} {a0 : Array Value} (hw : ∀ d ∈ tables_1, d.before a0 Z = true) : (Jvm.Cond.classLink "java/lang/String" (10 : Nat) "java/lang/String").before a0 Z = true := hw _ (List.mem_of_getElem? (i := 124) rfl)
theorem d34_16 : decode jdk_42_method_139_code 16 = .ok (.dup, 1) := by decide +kernel
theorem d34_17 : decode jdk_42_method_139_code 17 = .ok (.iload_n 0, 1) := by decide +kernel
theorem d34_18 : decode jdk_42_method_139_code 18 = .ok (.invokestatic 1018, 3) := by decide +kernel
theorem d36_0 : decode jdk_43_method_46_code 0 = .ok (.iconst 1, 1) := by decide +kernel
theorem d36_1 : decode jdk_43_method_46_code 1 = .ok (.newarray .byte, 2) := by decide +kernel
theorem d36_3 : decode jdk_43_method_46_code 3 = .ok (.dup, 1) := by decide +kernel
theorem d36_4 : decode jdk_43_method_46_code 4 = .ok (.iconst 0, 1) := by decide +kernel
theorem d36_5 : decode jdk_43_method_46_code 5 = .ok (.iload_n 0, 1) := by decide +kernel
theorem d36_6 : decode jdk_43_method_46_code 6 = .ok (.i2b, 1) := by decide +kernel
theorem d36_7 : decode jdk_43_method_46_code 7 = .ok (.bastore, 1) := by decide +kernel
theorem d36_8 : decode jdk_43_method_46_code 8 = .ok (.areturn, 1) := by decide +kernel
theorem w127 {Z : State} {a0 : Array Value} (hw : ∀ d ∈ tables_1, d.before a0 Z = true) : (Jvm.Cond.code ({ cls := "java/lang/StringLatin1", name := "toBytes", desc := "(C)[B" } : Jvm.MethodName) jdk_43_method_46_code (1 : Nat) (Option.some (Jvm.ClassFile.FieldType.array Jvm.ClassFile.FieldType.byte))).before a0 Z = true := hw _ (List.mem_of_getElem? (i := 127) rfl)
theorem pd_24 : parseMethodDescriptor "(C)[B" = some ⟨[.char], some (.array .byte)⟩ := by decide +kernel
theorem w125 {Z : State} {a0 : Array Value} (hw : ∀ d ∈ tables_1, d.before a0 Z = true) : (Jvm.Cond.methodLink "java/lang/String" (1018 : Nat) ({ cls := "java/lang/StringLatin1", name := "toBytes", desc := "(C)[B" } : Jvm.MethodName)).before a0 Z = true := hw _ (List.mem_of_getElem? (i := 125) rfl)
theorem w126 {Z : State} {a0 : Array Value} (hw : ∀ d ∈ tables_1, d.before a0 Z = true) : (Jvm.Cond.static ({ cls := "java/lang/StringLatin1", name := "toBytes", desc := "(C)[B" } : Jvm.MethodName)).before a0 Z = true := hw _ (List.mem_of_getElem? (i := 126) rfl)
theorem d34_21 : decode jdk_42_method_139_code 21 = .ok (.iconst 0, 1) := by decide +kernel
theorem d34_22 : decode jdk_42_method_139_code 22 = .ok (.invokespecial 209, 3) := by decide +kernel
theorem d37_0 : decode jdk_42_method_151_code 0 = .ok (.aload_n 0, 1) := by decide +kernel
theorem d37_1 : decode jdk_42_method_151_code 1 = .ok (.invokespecial 1, 3) := by decide +kernel
theorem d37_4 : decode jdk_42_method_151_code 4 = .ok (.aload_n 0, 1) := by decide +kernel
theorem d37_5 : decode jdk_42_method_151_code 5 = .ok (.aload_n 1, 1) := by decide +kernel
theorem d37_6 : decode jdk_42_method_151_code 6 = .ok (.putfield 9, 3) := by decide +kernel
theorem d37_9 : decode jdk_42_method_151_code 9 = .ok (.aload_n 0, 1) := by decide +kernel
theorem d37_10 : decode jdk_42_method_151_code 10 = .ok (.iload_n 2, 1) := by decide +kernel
theorem d37_11 : decode jdk_42_method_151_code 11 = .ok (.putfield 15, 3) := by decide +kernel
theorem d37_14 : decode jdk_42_method_151_code 14 = .ok (.return_, 1) := by decide +kernel
theorem w130 {Z : State} {a0 : Array Value} (hw : ∀ d ∈ tables_1, d.before a0 Z = true) : (Jvm.Cond.code ({ cls := "java/lang/String", name := "<init>", desc := "([BB)V" } : Jvm.MethodName) jdk_42_method_151_code (3 : Nat) (Option.none : Option Jvm.ClassFile.FieldType)).before a0 Z = true := hw _ (List.mem_of_getElem? (i := 130) rfl)
theorem pd_25 : parseMethodDescriptor "([BB)V" = some ⟨[(.array .byte), .byte], none⟩ := by decide +kernel
theorem w128 {Z : State} {a0 : Array Value} (hw : ∀ d ∈ tables_1, d.before a0 Z = true) : (Jvm.Cond.methodLink "java/lang/String" (209 : Nat) ({ cls := "java/lang/String", name := "<init>", desc := "([BB)V" } : Jvm.MethodName)).before a0 Z = true := hw _ (List.mem_of_getElem? (i := 128) rfl)
theorem w129 {Z : State} {a0 : Array Value} (hw : ∀ d ∈ tables_1, d.before a0 Z = true) : (Jvm.Cond.instanceMethod ({ cls := "java/lang/String", name := "<init>", desc := "([BB)V" } : Jvm.MethodName)).before a0 Z = true := hw _ (List.mem_of_getElem? (i := 129) rfl)
theorem d34_25 : decode jdk_42_method_139_code 25 = .ok (.areturn, 1) := by decide +kernel
theorem w119 {Z : State} {a0 : Array Value} (hw : ∀ d ∈ tables_1, d.before a0 Z = true) : (Jvm.Cond.code ({ cls := "java/lang/String", name := "valueOf", desc := "(C)Ljava/lang/String;" } : Jvm.MethodName) jdk_42_method_139_code (1 : Nat) (Option.some (Jvm.ClassFile.FieldType.object "java/lang/String"))).before a0 Z = true := hw _ (List.mem_of_getElem? (i := 119) rfl)
theorem pd_26 : parseMethodDescriptor "(C)Ljava/lang/String;" = some ⟨[.char], some (.object "java/lang/String")⟩ := by decide +kernel
theorem w117 {Z : State} {a0 : Array Value} (hw : ∀ d ∈ tables_1, d.before a0 Z = true) : (Jvm.Cond.methodLink "com/example/tuplet/tuplet/OptionOfPinLaw" (37 : Nat) ({ cls := "java/lang/String", name := "valueOf", desc := "(C)Ljava/lang/String;" } : Jvm.MethodName)).before a0 Z = true := hw _ (List.mem_of_getElem? (i := 117) rfl)
theorem w118 {Z : State} {a0 : Array Value} (hw : ∀ d ∈ tables_1, d.before a0 Z = true) : (Jvm.Cond.static ({ cls := "java/lang/String", name := "valueOf", desc := "(C)Ljava/lang/String;" } : Jvm.MethodName)).before a0 Z = true := hw _ (List.mem_of_getElem? (i := 118) rfl)
theorem w242 {Z : State} {a0 : Array Value} (hw : ∀ d ∈ tables_1, d.before a0 Z = true) : (Jvm.Cond.methodLink "com/example/tuplet/tuplet/OptionOfPinLaw" (77 : Nat) ({ cls := "java/lang/String", name := "length", desc := "()I" } : Jvm.MethodName)).before a0 Z = true := hw _ (List.mem_of_getElem? (i := 242) rfl)
theorem d38_0 : decode jdk_42_method_56_code 0 = .ok (.aload_n 0, 1) := by decide +kernel
theorem d38_1 : decode jdk_42_method_56_code 1 = .ok (.invokevirtual 492, 3) := by decide +kernel
theorem d39_0 : decode jdk_42_method_154_code 0 = .ok (.getstatic 38, 3) := by decide +kernel
theorem d39_3 : decode jdk_42_method_154_code 3 = .ok (.ifCond .eq 14, 3) := by decide +kernel
theorem d39_6 : decode jdk_42_method_154_code 6 = .ok (.aload_n 0, 1) := by decide +kernel
theorem d39_7 : decode jdk_42_method_154_code 7 = .ok (.getfield 15, 3) := by decide +kernel
theorem d39_10 : decode jdk_42_method_154_code 10 = .ok (.ifCond .ne 7, 3) := by decide +kernel
theorem d39_13 : decode jdk_42_method_154_code 13 = .ok (.iconst 1, 1) := by decide +kernel
theorem d39_14 : decode jdk_42_method_154_code 14 = .ok (.goto 4, 3) := by decide +kernel
theorem d39_18 : decode jdk_42_method_154_code 18 = .ok (.ireturn, 1) := by decide +kernel
theorem w252 {Z : State} {a0 : Array Value} (hw : ∀ d ∈ tables_1, d.before a0 Z = true) : (Jvm.Cond.code ({ cls := "java/lang/String", name := "isLatin1", desc := "()Z" } : Jvm.MethodName) jdk_42_method_154_code (1 : Nat) (Option.some Jvm.ClassFile.FieldType.boolean)).before a0 Z = true := hw _ (List.mem_of_getElem? (i := 252) rfl)
theorem w248 {Z : State} {a0 : Array Value} (hw : ∀ d ∈ tables_1, d.before a0 Z = true) : (Jvm.Cond.methodLink "java/lang/String" (492 : Nat) ({ cls := "java/lang/String", name := "isLatin1", desc := "()Z" } : Jvm.MethodName)).before a0 Z = true := hw _ (List.mem_of_getElem? (i := 248) rfl)
theorem w251 {Z : State} {a0 : Array Value} (hw : ∀ d ∈ tables_1, d.before a0 Z = true) : (Jvm.Cond.selects "java/lang/String" ({ cls := "java/lang/String", name := "isLatin1", desc := "()Z" } : Jvm.MethodName) ({ cls := "java/lang/String", name := "isLatin1", desc := "()Z" } : Jvm.MethodName)).before a0 Z = true := hw _ (List.mem_of_getElem? (i := 251) rfl)
theorem w249 {Z : State} {a0 : Array Value} (hw : ∀ d ∈ tables_1, d.before a0 Z = true) : (Jvm.Cond.declares ({ cls := "java/lang/String", name := "isLatin1", desc := "()Z" } : Jvm.MethodName)).before a0 Z = true := hw _ (List.mem_of_getElem? (i := 249) rfl)
theorem w250 {Z : State} {a0 : Array Value} (hw : ∀ d ∈ tables_1, d.before a0 Z = true) : (Jvm.Cond.instanceMethod ({ cls := "java/lang/String", name := "isLatin1", desc := "()Z" } : Jvm.MethodName)).before a0 Z = true := hw _ (List.mem_of_getElem? (i := 250) rfl)
theorem d38_4 : decode jdk_42_method_56_code 4 = .ok (.ifCond .eq 12, 3) := by decide +kernel
theorem d38_7 : decode jdk_42_method_56_code 7 = .ok (.aload_n 0, 1) := by decide +kernel
theorem d38_8 : decode jdk_42_method_56_code 8 = .ok (.getfield 9, 3) := by decide +kernel
theorem d38_11 : decode jdk_42_method_56_code 11 = .ok (.iload_n 1, 1) := by decide +kernel
theorem d38_12 : decode jdk_42_method_56_code 12 = .ok (.invokestatic 495, 3) := by decide +kernel
theorem d40_0 : decode jdk_43_method_2_code 0 = .ok (.iload_n 1, 1) := by decide +kernel
theorem d40_1 : decode jdk_43_method_2_code 1 = .ok (.aload_n 0, 1) := by decide +kernel
theorem d40_2 : decode jdk_43_method_2_code 2 = .ok (.arraylength, 1) := by decide +kernel
theorem d40_3 : decode jdk_43_method_2_code 3 = .ok (.invokestatic 9, 3) := by decide +kernel
theorem d41_0 : decode jdk_42_method_155_code 0 = .ok (.iload_n 0, 1) := by decide +kernel
theorem d41_1 : decode jdk_42_method_155_code 1 = .ok (.iload_n 1, 1) := by decide +kernel
theorem d41_2 : decode jdk_42_method_155_code 2 = .ok (.getstatic 1053, 3) := by decide +kernel
theorem w259 {Z : State} {a0 : Array Value} (hw : ∀ d ∈ tables_1, d.before a0 Z = true) : (Jvm.Cond.fieldLink "java/lang/String" (1053 : Nat) "jdk/internal/util/Preconditions" "SIOOBE_FORMATTER" "Ljava/util/function/BiFunction;").before a0 Z = true := hw _ (List.mem_of_getElem? (i := 259) rfl)
theorem d41_5 : decode jdk_42_method_155_code 5 = .ok (.invokestatic 1059, 3) := by decide +kernel
theorem pn_jdk_internal_util_Preconditions : plainName "jdk/internal/util/Preconditions" = true := by first | (simp [plainName, overriddenIn]; done) | decide +kernel
theorem d42_0 : decode jdk_41_method_11_code 0 = .ok (.iload_n 0, 1) := by decide +kernel
theorem d42_1 : decode jdk_41_method_11_code 1 = .ok (.ifCond .lt 8, 3) := by decide +kernel
theorem d42_4 : decode jdk_41_method_11_code 4 = .ok (.iload_n 0, 1) := by decide +kernel
theorem d42_5 : decode jdk_41_method_11_code 5 = .ok (.iload_n 1, 1) := by decide +kernel
theorem d42_6 : decode jdk_41_method_11_code 6 = .ok (.if_icmp .lt 10, 3) := by decide +kernel
theorem d42_16 : decode jdk_41_method_11_code 16 = .ok (.iload_n 0, 1) := by decide +kernel
theorem d42_17 : decode jdk_41_method_11_code 17 = .ok (.ireturn, 1) := by decide +kernel
theorem w263 {Z : State} {a0 : Array Value} (hw : ∀ d ∈ tables_1, d.before a0 Z = true) : (Jvm.Cond.code ({ cls := "jdk/internal/util/Preconditions", name := "checkIndex", desc := "(IILjava/util/function/BiFunction;)I" } : Jvm.MethodName) jdk_41_method_11_code (3 : Nat) (Option.some Jvm.ClassFile.FieldType.int)).before a0 Z = true := hw _ (List.mem_of_getElem? (i := 263) rfl)
theorem w260 {Z : State} {a0 : Array Value} (hw : ∀ d ∈ tables_1, d.before a0 Z = true) : (Jvm.Cond.initialized "jdk/internal/util/Preconditions").before a0 Z = true := hw _ (List.mem_of_getElem? (i := 260) rfl)
theorem pd_27 : parseMethodDescriptor "(IILjava/util/function/BiFunction;)I" = some ⟨[.int, .int, (.object "java/util/function/BiFunction")], some .int⟩ := by decide +kernel
theorem w261 {Z : State} {a0 : Array Value} (hw : ∀ d ∈ tables_1, d.before a0 Z = true) : (Jvm.Cond.methodLink "java/lang/String" (1059 : Nat) ({ cls := "jdk/internal/util/Preconditions", name := "checkIndex", desc := "(IILjava/util/function/BiFunction;)I" } : Jvm.MethodName)).before a0 Z = true := hw _ (List.mem_of_getElem? (i := 261) rfl)
theorem w262 {Z : State} {a0 : Array Value} (hw : ∀ d ∈ tables_1, d.before a0 Z = true) : (Jvm.Cond.static ({ cls := "jdk/internal/util/Preconditions", name := "checkIndex", desc := "(IILjava/util/function/BiFunction;)I" } : Jvm.MethodName)).before a0 Z = true := hw _ (List.mem_of_getElem? (i := 262) rfl)
theorem d41_8 : decode jdk_42_method_155_code 8 = .ok (.pop, 1) := by decide +kernel
theorem d41_9 : decode jdk_42_method_155_code 9 = .ok (.return_, 1) := by decide +kernel
theorem w258 {Z : State} {a0 : Array Value} (hw : ∀ d ∈ tables_1, d.before a0 Z = true) : (Jvm.Cond.code ({ cls := "java/lang/String", name := "checkIndex", desc := "(II)V" } : Jvm.MethodName) jdk_42_method_155_code (2 : Nat) (Option.none : Option Jvm.ClassFile.FieldType)).before a0 Z = true := hw _ (List.mem_of_getElem? (i := 258) rfl)
theorem w256 {Z : State} {a0 : Array Value} (hw : ∀ d ∈ tables_1, d.before a0 Z = true) : (Jvm.Cond.methodLink "java/lang/StringLatin1" (9 : Nat) ({ cls := "java/lang/String", name := "checkIndex", desc := "(II)V" } : Jvm.MethodName)).before a0 Z = true := hw _ (List.mem_of_getElem? (i := 256) rfl)
theorem w257 {Z : State} {a0 : Array Value} (hw : ∀ d ∈ tables_1, d.before a0 Z = true) : (Jvm.Cond.static ({ cls := "java/lang/String", name := "checkIndex", desc := "(II)V" } : Jvm.MethodName)).before a0 Z = true := hw _ (List.mem_of_getElem? (i := 257) rfl)
theorem d40_6 : decode jdk_43_method_2_code 6 = .ok (.aload_n 0, 1) := by decide +kernel
theorem d40_7 : decode jdk_43_method_2_code 7 = .ok (.iload_n 1, 1) := by decide +kernel
theorem d40_8 : decode jdk_43_method_2_code 8 = .ok (.baload, 1) := by decide +kernel
theorem d40_9 : decode jdk_43_method_2_code 9 = .ok (.sipush 255, 3) := by decide +kernel
theorem d40_12 : decode jdk_43_method_2_code 12 = .ok (.iand, 1) := by decide +kernel
theorem d40_13 : decode jdk_43_method_2_code 13 = .ok (.i2c, 1) := by decide +kernel
theorem d40_14 : decode jdk_43_method_2_code 14 = .ok (.ireturn, 1) := by decide +kernel
theorem w255 {Z : State} {a0 : Array Value} (hw : ∀ d ∈ tables_1, d.before a0 Z = true) : (Jvm.Cond.code ({ cls := "java/lang/StringLatin1", name := "charAt", desc := "([BI)C" } : Jvm.MethodName) jdk_43_method_2_code (2 : Nat) (Option.some Jvm.ClassFile.FieldType.char)).before a0 Z = true := hw _ (List.mem_of_getElem? (i := 255) rfl)
theorem pd_28 : parseMethodDescriptor "([BI)C" = some ⟨[(.array .byte), .int], some .char⟩ := by decide +kernel
theorem w253 {Z : State} {a0 : Array Value} (hw : ∀ d ∈ tables_1, d.before a0 Z = true) : (Jvm.Cond.methodLink "java/lang/String" (495 : Nat) ({ cls := "java/lang/StringLatin1", name := "charAt", desc := "([BI)C" } : Jvm.MethodName)).before a0 Z = true := hw _ (List.mem_of_getElem? (i := 253) rfl)
theorem w254 {Z : State} {a0 : Array Value} (hw : ∀ d ∈ tables_1, d.before a0 Z = true) : (Jvm.Cond.static ({ cls := "java/lang/StringLatin1", name := "charAt", desc := "([BI)C" } : Jvm.MethodName)).before a0 Z = true := hw _ (List.mem_of_getElem? (i := 254) rfl)
theorem d38_15 : decode jdk_42_method_56_code 15 = .ok (.ireturn, 1) := by decide +kernel
theorem w247 {Z : State} {a0 : Array Value} (hw : ∀ d ∈ tables_1, d.before a0 Z = true) : (Jvm.Cond.code ({ cls := "java/lang/String", name := "charAt", desc := "(I)C" } : Jvm.MethodName) jdk_42_method_56_code (2 : Nat) (Option.some Jvm.ClassFile.FieldType.char)).before a0 Z = true := hw _ (List.mem_of_getElem? (i := 247) rfl)
theorem pd_29 : parseMethodDescriptor "(I)C" = some ⟨[.int], some .char⟩ := by decide +kernel
theorem w243 {Z : State} {a0 : Array Value} (hw : ∀ d ∈ tables_1, d.before a0 Z = true) : (Jvm.Cond.methodLink "com/example/tuplet/tuplet/OptionOfPinLaw" (81 : Nat) ({ cls := "java/lang/String", name := "charAt", desc := "(I)C" } : Jvm.MethodName)).before a0 Z = true := hw _ (List.mem_of_getElem? (i := 243) rfl)
theorem w246 {Z : State} {a0 : Array Value} (hw : ∀ d ∈ tables_1, d.before a0 Z = true) : (Jvm.Cond.selects "java/lang/String" ({ cls := "java/lang/String", name := "charAt", desc := "(I)C" } : Jvm.MethodName) ({ cls := "java/lang/String", name := "charAt", desc := "(I)C" } : Jvm.MethodName)).before a0 Z = true := hw _ (List.mem_of_getElem? (i := 246) rfl)
theorem w244 {Z : State} {a0 : Array Value} (hw : ∀ d ∈ tables_1, d.before a0 Z = true) : (Jvm.Cond.declares ({ cls := "java/lang/String", name := "charAt", desc := "(I)C" } : Jvm.MethodName)).before a0 Z = true := hw _ (List.mem_of_getElem? (i := 244) rfl)
theorem w245 {Z : State} {a0 : Array Value} (hw : ∀ d ∈ tables_1, d.before a0 Z = true) : (Jvm.Cond.instanceMethod ({ cls := "java/lang/String", name := "charAt", desc := "(I)C" } : Jvm.MethodName)).before a0 Z = true := hw _ (List.mem_of_getElem? (i := 245) rfl)
theorem w6 {Z : State} {a0 : Array Value} (hw : ∀ d ∈ tables_1, d.before a0 Z = true) : (Jvm.Cond.initialized "com/example/tuplet/tuplet/Commands$Kind").before a0 Z = true := hw _ (List.mem_of_getElem? (i := 6) rfl)
theorem w7 {Z : State} {a0 : Array Value} (hw : ∀ d ∈ tables_1, d.before a0 Z = true) : (Jvm.Cond.laysStatic "com/example/tuplet/tuplet/Commands$Kind" "FLAG" "Lcom/example/tuplet/tuplet/Commands$Kind;").before a0 Z = true := hw _ (List.mem_of_getElem? (i := 7) rfl)
theorem w114 {Z : State} {a0 : Array Value} (hw : ∀ d ∈ tables_1, d.before a0 Z = true) : (Jvm.Cond.laysStatic "com/example/tuplet/tuplet/Commands$Kind" "INTEGER" "Lcom/example/tuplet/tuplet/Commands$Kind;").before a0 Z = true := hw _ (List.mem_of_getElem? (i := 114) rfl)
theorem w116 {Z : State} {a0 : Array Value} (hw : ∀ d ∈ tables_1, d.before a0 Z = true) : (Jvm.Cond.laysStatic "com/example/tuplet/tuplet/Commands$Kind" "LIST" "Lcom/example/tuplet/tuplet/Commands$Kind;").before a0 Z = true := hw _ (List.mem_of_getElem? (i := 116) rfl)
theorem w265 {Z : State} {a0 : Array Value} (hw : ∀ d ∈ tables_1, d.before a0 Z = true) : (Jvm.Cond.laysStatic "com/example/tuplet/tuplet/Commands$Kind" "TEXT" "Lcom/example/tuplet/tuplet/Commands$Kind;").before a0 Z = true := hw _ (List.mem_of_getElem? (i := 265) rfl)
theorem w267 {Z : State} {a0 : Array Value} (hw : ∀ d ∈ tables_1, d.before a0 Z = true) : (Jvm.Cond.laysStatic "com/example/tuplet/tuplet/Commands$Kind" "PATH" "Lcom/example/tuplet/tuplet/Commands$Kind;").before a0 Z = true := hw _ (List.mem_of_getElem? (i := 267) rfl)
theorem and255_chars (x : Int32) : ¬ nar .char ((x &&& (255 : Int32)).toUInt32.toUInt16.toUInt32.toInt32) < 0 ∧ ¬ (255 : Int32) < nar .char ((x &&& (255 : Int32)).toUInt32.toUInt16.toUInt32.toInt32) := by
  have t : ∀ k : Fin 256, ¬ nar .char ((Int32.ofNat k.val).toUInt32.toUInt16.toUInt32.toInt32) < 0 ∧ ¬ (255 : Int32) < nar .char ((Int32.ofNat k.val).toUInt32.toUInt16.toUInt32.toInt32) := by decide +kernel
  have h : (x &&& 255).toBitVec.toNat < 256 := by
    simp only [Int32.toBitVec_and, BitVec.toNat_and]
    exact Nat.lt_succ_of_le Nat.and_le_right
  have e : (x &&& 255) = Int32.ofNat (x &&& 255).toBitVec.toNat := by
    apply Int32.toBitVec_inj.mp
    show _ = BitVec.ofNat 32 _
    rw [BitVec.ofNat_toNat]; simp
  rw [e]
  exact t ⟨_, h⟩
theorem chars_nil : ∀ c ∈ ([] : List Int32), ¬ c < 0 ∧ ¬ (255 : Int32) < c := fun _ h => nomatch h
theorem chars_cons {c : Int32} {L : List Int32} (h : ¬ c < 0 ∧ ¬ (255 : Int32) < c) (r : ∀ c ∈ L, ¬ c < 0 ∧ ¬ (255 : Int32) < c) : ∀ d ∈ c :: L, ¬ d < 0 ∧ ¬ (255 : Int32) < d := fun d q => (List.mem_cons.mp q).elim (fun u => u ▸ h) (r d)
theorem words_in (hs : ∀ d ∈ StrChars.Road.words, d ∈ tables_1) {Z : State} {a0 : Array Value} (hw : ∀ d ∈ tables_1, d.before a0 Z = true) : ∀ d ∈ StrChars.Road.words, d.before a0 Z = true := fun d hd => hw d (hs d hd)
theorem str_words : ∀ d ∈ StrChars.Road.words, d ∈ tables_1 := by decide +kernel
theorem and255_c (x : Int32) : ¬ (x &&& (255 : Int32)).toUInt32.toUInt16.toUInt32.toInt32 < 0 ∧ ¬ (255 : Int32) < (x &&& (255 : Int32)).toUInt32.toUInt16.toUInt32.toInt32 := by
  have t : ∀ k : Fin 256, ¬ ((Int32.ofNat k.val).toUInt32.toUInt16.toUInt32.toInt32) < 0 ∧ ¬ (255 : Int32) < ((Int32.ofNat k.val).toUInt32.toUInt16.toUInt32.toInt32) := by decide +kernel
  have h : (x &&& 255).toBitVec.toNat < 256 := by
    simp only [Int32.toBitVec_and, BitVec.toNat_and]
    exact Nat.lt_succ_of_le Nat.and_le_right
  have e : (x &&& 255) = Int32.ofNat (x &&& 255).toBitVec.toNat := by
    apply Int32.toBitVec_inj.mp
    show _ = BitVec.ofNat 32 _
    rw [BitVec.ofNat_toNat]; simp
  rw [e]
  exact t ⟨_, h⟩
theorem c_all {c : Int32} {P : Int32 → Prop} (h : ¬ c < 0 ∧ ¬ (255 : Int32) < c) (q : ∀ k : Fin 256, P (Int32.ofNat k.val)) : P c := by
  have h1 : 0 ≤ c.toInt := by have := h.1; rw [Int32.lt_iff_toInt_lt] at this; have e : (0 : Int32).toInt = 0 := rfl; omega
  have h2 : c.toInt ≤ 255 := by have := h.2; rw [Int32.lt_iff_toInt_lt] at this; have e : (255 : Int32).toInt = 255 := rfl; omega
  obtain ⟨n, hn⟩ := Int.eq_ofNat_of_zero_le h1
  have hlt : n < 256 := by omega
  have t : ∀ k : Fin 256, (Int32.ofNat k.val).toInt = (k.val : Int) := by decide +kernel
  have e : c = Int32.ofNat n := Int32.toInt_inj.mp (by rw [hn]; exact (t ⟨n, hlt⟩).symm)
  rw [e]; exact q ⟨n, hlt⟩
theorem nar_c {c : Int32} (h : ¬ c < 0 ∧ ¬ (255 : Int32) < c) : nar .char c = c := c_all (P := fun c => nar .char c = c) h (by decide +kernel)
theorem chat_c {c : Int32} (h : ¬ c < 0 ∧ ¬ (255 : Int32) < c) : nar .char (nar .char ((c.toInt8.toInt32 &&& (255 : Int32)).toUInt32.toUInt16.toUInt32.toInt32)) = c := c_all (P := fun c => nar .char (nar .char ((c.toInt8.toInt32 &&& (255 : Int32)).toUInt32.toUInt16.toUInt32.toInt32)) = c) h (by decide +kernel)
theorem chat_b {c : Int32} (h : ¬ c < 0 ∧ ¬ (255 : Int32) < c) : nar .char (nar .char (((nar .byte c.toInt8.toInt32) &&& (255 : Int32)).toUInt32.toUInt16.toUInt32.toInt32)) = c := c_all (P := fun c => nar .char (nar .char (((nar .byte c.toInt8.toInt32) &&& (255 : Int32)).toUInt32.toUInt16.toUInt32.toInt32)) = c) h (by decide +kernel)
theorem hEL {Z : State} {a0 : Array Value} (hw : ∀ d ∈ tables_1, d.before a0 Z = true) : EW Z a0 consts_1 := (EW.cons (w196 hw) (by decide) (EW.cons (w38 hw) (by decide) EW.nil))
theorem str_atoms {Z : State} {a0 : Array Value} (hw : ∀ d ∈ tables_1, d.before a0 Z = true) : ∀ a ∈ Bundle.stringAtoms, a.before a0 Z = true := fun d hd => hw d ((by decide +kernel : ∀ d ∈ Bundle.stringAtoms, d ∈ tables_1) d hd)
def Q_rec (Z : State) (a1 : Addr) (h0 : Heap) (n0 : Nat) (vR : Option Value) (h : Heap) (L : List Loc) : Prop := vR = none ∧ Fr n0 L ∧ h = h0
theorem ef_rec (m : MethodId) (x0 : Addr) : entryFrame m #[(.ref x0)] 1 = mkF m 0 #[.val (.ref x0)] [] := by first | (simp [entryFrame, mkF, argsToLocals, Value.category]; done) | rfl
set_option maxRecDepth 65536 in
set_option maxHeartbeats 40000000 in
theorem rm_rec (l : Launch) (Z : State) (a0 : Array Value) (hw : ∀ d ∈ tables_1, d.before a0 Z = true) (ws : List Jvm.Cond) (a1 : Addr) (h0 : Heap) (n0 : Nat) (Z0 : n0 ≤ h0.size)  :
    MetFree l (⟨"java/lang/Record", "<init>", "()V"⟩ : MethodName) (head1 (Jvm.Cond.code (⟨"java/lang/Record", "<init>", "()V"⟩ : MethodName) jdk_30_method_1_code 1 none :: ws) ({ frames := 1, cells := 0, slots := 0, locals := 12 } : Room)) (fun a U => a = #[(.ref a1)] ∧ Z.Warmed39 U.vm ∧ U.heap = h0) (fun _ _ _ _ _ => True) (fun _ U o U' => ∃ v L, o = .returned v ∧ Q_rec Z a1 h0 n0 v U'.heap L ∧ FrameEnd U o U' L ({ frames := 1, cells := 0, slots := 0, locals := 12 } : Room).cells ({ frames := 1, cells := 0, slots := 0, locals := 12 } : Room).slots) := by
  refine MetFree.of_bodySF (plainFor_of_name pn_java_lang_Record) hisR ?_
  intro p e s m args below meth c s₁ Bd hml0 hP hK
  obtain ⟨rfl, hZ, hh⟩ := hP
  have hx := Bd.exec
  have hby := Bd.bytes
  have hml : c.maxLocals = 1 := hml0
  have hown : s.vm.findClass "java/lang/Record" = some m.cls := findClass_of_methodNamed Bd.named
  have hnm := (name_of_methodNamed Bd.named Bd.method).1
  have X0 : Stand p l e ({ frames := 1, cells := 0, slots := 0, locals := 12 } : Room) s m #[(.ref a1)] below meth c s₁ [] 0 0 := Stand.of_body Bd
  have e0 : s₁.heap = h0 := by rw [← hh, Bd.state]; rfl
  have N0 := Fr.nil n0
  refine go_st (fun t k => castTop (ef_rec m a1) k) ?_
  show Go _ _ _ _ (s₁.setTop (mkF m 0 #[rv a1] []))
  refine go_st (fun t k => XS.aloadN X0.here hx rfl (hb hby d0_0) rfl rfl k) ?_
  show Go _ _ _ _ (s₁.setTop (mkF m 1 #[rv a1] [(.ref a1)]))
  obtain ⟨T1, X1, e1, st1⟩ := initO X0 hx hZ hown (w55 hw) (w20 hw) (w21 hw) e0 (g := (mkF m 1 #[rv a1] [(.ref a1)])) rfl (by rw [hml]; rfl) rfl (hb hby d0_1) (by decide) (W := 0) (by show 2 * 0 + _ ≤ _; exact Nat.le_of_eq rfl) (by decide)
  refine go_st (fun t k => st1 t k) ?_
  show Go _ _ _ _ (T1.setTop (mkF m 4 #[rv a1] []))
  obtain ⟨fs, hr, hrun, hended, hW, hsame⟩ := X1.leave (v := none) (fun _ => rfl)
  refine ⟨_, _, ?_, hrun, hended, _, _, rfl, ?_, ⟨_, rfl⟩, hW, hsame.mono (by decide) (by decide)⟩
  · exact X1.returnOut hx Bd.returns (hb hby d0_4) hr
  · show Q_rec _ _ _ _ _ T1.heap _
    rw [e1]
    exact ⟨rfl, N0, rfl⟩
def Q_ctor0 (Z : State) (a1 : Addr) (v0 : Value) (v1 : Value) (v2 : Value) (v3 : Value) (v5 : Value) (h0 : Heap) (n0 : Nat) (vR : Option Value) (h : Heap) (L : List Loc) : Prop := vR = none ∧ Fr n0 L ∧ Keep h0 h [a1] ∧ (Exa Z h a1 "com/example/tuplet/tuplet/Commands$Option") ∧ (Fld Z h a1 "com/example/tuplet/tuplet/Commands$Option" "name" "Ljava/lang/String;" v0) ∧ (Fld Z h a1 "com/example/tuplet/tuplet/Commands$Option" "kind" "Lcom/example/tuplet/tuplet/Commands$Kind;" v1) ∧ (Fld Z h a1 "com/example/tuplet/tuplet/Commands$Option" "label" "Ljava/lang/String;" v2) ∧ (Fld Z h a1 "com/example/tuplet/tuplet/Commands$Option" "help" "Ljava/lang/String;" v3) ∧ (Fld Z h a1 "com/example/tuplet/tuplet/Commands$Option" "required" "Z" (.int 0)) ∧ (Fld Z h a1 "com/example/tuplet/tuplet/Commands$Option" "byDefault" "Ljava/lang/String;" v5)
theorem ef_ctor0 (m : MethodId) (x0 : Addr) (x1 : Value) (hx1 : x1.isRef = true) (x2 : Value) (hx2 : x2.isRef = true) (x3 : Value) (hx3 : x3.isRef = true) (x4 : Value) (hx4 : x4.isRef = true) (x5 : Int32) (x6 : Value) (hx6 : x6.isRef = true) : entryFrame m #[(.ref x0), x1, x2, x3, x4, (.int x5), x6] 7 = mkF m 0 #[.val (.ref x0), .val x1, .val x2, .val x3, .val x4, .val (.int x5), .val x6] [] := by rcases ref_cases hx1 with rfl | ⟨y1, rfl⟩ <;> rcases ref_cases hx2 with rfl | ⟨y2, rfl⟩ <;> rcases ref_cases hx3 with rfl | ⟨y3, rfl⟩ <;> rcases ref_cases hx4 with rfl | ⟨y4, rfl⟩ <;> rcases ref_cases hx6 with rfl | ⟨y6, rfl⟩ <;> simp [entryFrame, mkF, argsToLocals, Value.category]
set_option maxRecDepth 65536 in
set_option maxHeartbeats 40000000 in
theorem rm_ctor0 (l : Launch) (Z : State) (a0 : Array Value) (hw : ∀ d ∈ tables_1, d.before a0 Z = true) (ws : List Jvm.Cond) (a1 : Addr) (v0 : Value) (v1 : Value) (v2 : Value) (v3 : Value) (v5 : Value) (h0 : Heap) (n0 : Nat) (Z0 : n0 ≤ h0.size) (H0 : Exa Z h0 a1 "com/example/tuplet/tuplet/Commands$Option") (H1 : Fld Z h0 a1 "com/example/tuplet/tuplet/Commands$Option" "name" "Ljava/lang/String;" .null) (H2 : Fld Z h0 a1 "com/example/tuplet/tuplet/Commands$Option" "kind" "Lcom/example/tuplet/tuplet/Commands$Kind;" .null) (H3 : Fld Z h0 a1 "com/example/tuplet/tuplet/Commands$Option" "label" "Ljava/lang/String;" .null) (H4 : Fld Z h0 a1 "com/example/tuplet/tuplet/Commands$Option" "help" "Ljava/lang/String;" .null) (H5 : Fld Z h0 a1 "com/example/tuplet/tuplet/Commands$Option" "required" "Z" (.int 0)) (H6 : Fld Z h0 a1 "com/example/tuplet/tuplet/Commands$Option" "byDefault" "Ljava/lang/String;" .null) (g_a1 : n0 ≤ a1) (hv0 : v0.isRef = true) (hv1 : v1.isRef = true) (hv2 : v2.isRef = true) (hv3 : v3.isRef = true) (hv5 : v5.isRef = true) :
    MetFree l (⟨"com/example/tuplet/tuplet/Commands$Option", "<init>", "(Ljava/lang/String;Lcom/example/tuplet/tuplet/Commands$Kind;Ljava/lang/String;Ljava/lang/String;ZLjava/lang/String;)V"⟩ : MethodName) (head1 (Jvm.Cond.code (⟨"com/example/tuplet/tuplet/Commands$Option", "<init>", "(Ljava/lang/String;Lcom/example/tuplet/tuplet/Commands$Kind;Ljava/lang/String;Ljava/lang/String;ZLjava/lang/String;)V"⟩ : MethodName) prog_6_method_1_code 7 none :: ws) ({ frames := 2, cells := 0, slots := 0, locals := 24 } : Room)) (fun a U => a = #[(.ref a1), v0, v1, v2, v3, (.int 0), v5] ∧ Z.Warmed39 U.vm ∧ U.heap = h0) (fun _ _ _ _ _ => True) (fun _ U o U' => ∃ v L, o = .returned v ∧ Q_ctor0 Z a1 v0 v1 v2 v3 v5 h0 n0 v U'.heap L ∧ FrameEnd U o U' L ({ frames := 2, cells := 0, slots := 0, locals := 24 } : Room).cells ({ frames := 2, cells := 0, slots := 0, locals := 24 } : Room).slots) := by
  refine MetFree.of_bodySF (plainFor_of_name pn_com_example_tuplet_tuplet_Commands_Option) hisR ?_
  intro p e s m args below meth c s₁ Bd hml0 hP hK
  obtain ⟨rfl, hZ, hh⟩ := hP
  have hx := Bd.exec
  have hby := Bd.bytes
  have hml : c.maxLocals = 7 := hml0
  have hown : s.vm.findClass "com/example/tuplet/tuplet/Commands$Option" = some m.cls := findClass_of_methodNamed Bd.named
  have hnm := (name_of_methodNamed Bd.named Bd.method).1
  have X0 : Stand p l e ({ frames := 2, cells := 0, slots := 0, locals := 24 } : Room) s m #[(.ref a1), v0, v1, v2, v3, (.int 0), v5] below meth c s₁ [] 0 0 := Stand.of_body Bd
  have e0 : s₁.heap = h0 := by rw [← hh, Bd.state]; rfl
  have N0 := Fr.nil n0
  refine go_st (fun t k => castTop (ef_ctor0 m a1 v0 hv0 v1 hv1 v2 hv2 v3 hv3 (0 : Int32) v5 hv5) k) ?_
  show Go _ _ _ _ (s₁.setTop (mkF m 0 #[rv a1, .val v0, .val v1, .val v2, .val v3, iv 0, .val v5] []))
  refine go_st (fun t k => XS.aloadN X0.here hx rfl (hb hby d1_0) rfl rfl k) ?_
  show Go _ _ _ _ (s₁.setTop (mkF m 1 #[rv a1, .val v0, .val v1, .val v2, .val v3, iv 0, .val v5] [(.ref a1)]))
  obtain ⟨_, _, ⟨T1, L1, kk1, nn1⟩, -, X1, ⟨Lc1, hQ1, lq1, yq1, zq1⟩, st1⟩ := X0.specialBack hx (y := (⟨"java/lang/Record", "<init>", "()V"⟩ : MethodName)) rfl hown (mvT hZ (w50 hw)) (mvT hZ (w51 hw)) (mvT hZ (w54 hw)) (by decide) (backOf (W := 0) (rm_rec l Z a0 hw [] a1 h0 n0 (Nat.le_trans Z0 (Nat.le_refl _)) ) hZ (w54 hw) (w53 hw) (by decide) (by decide)) (g := (mkF m 1 #[rv a1, .val v0, .val v1, .val v2, .val v3, iv 0, .val v5] [(.ref a1)])) rfl (by rw [hml]; rfl) (Steps.refl _) (a := a1) (argsL := []) (rest := []) (lenOf pd_0 rfl) rfl (by show 2 * 0 + _ ≤ _; exact Nat.le_of_eq rfl) (hb hby d1_1) (fun _ _ => ⟨rfl, e0, (by decide : 0 + 0 ≤ _), (by decide : 0 + 0 ≤ _)⟩)
  dsimp only [Pt.U, Pt.locs, Pt.cells, Pt.slots] at X1 lq1 yq1 zq1 st1 hQ1
  obtain rfl : kk1 = 0 := yq1
  obtain rfl : nn1 = 0 := zq1
  obtain ⟨h1, e1⟩ : ∃ z, T1.heap = z := ⟨_, rfl⟩
  rw [e1] at hQ1
  obtain ⟨rfl, N1q, he1⟩ := hQ1
  have N1 : Fr n0 L1 := by rw [lq1]; exact Fr.app N0 N1q
  rw [he1] at e1
  refine go_tr st1 ?_
  show Go _ _ _ _ (T1.setTop (mkF m 4 #[rv a1, .val v0, .val v1, .val v2, .val v3, iv 0, .val v5] []))
  refine go_st (fun t k => XS.aloadN X1.here hx rfl (hb hby d1_4) rfl rfl k) ?_
  show Go _ _ _ _ (T1.setTop (mkF m 5 #[rv a1, .val v0, .val v1, .val v2, .val v3, iv 0, .val v5] [(.ref a1)]))
  refine go_st (fun t k => XS.aloadN X1.here hx rfl (hb hby d1_5) rfl hv0 k) ?_
  show Go _ _ _ _ (T1.setTop (mkF m 6 #[rv a1, .val v0, .val v1, .val v2, .val v3, iv 0, .val v5] [v0, (.ref a1)]))
  obtain ⟨T2, h2, X2, e2, W2, st2⟩ := putF X1 hx hZ hown (host := "") (Or.inl (w56 hw)) Via.refl e1 H1 H0 (Or.inr ⟨(w57 hw), rfl, hnm⟩) (w46 hw) (ty := (.object "java/lang/String")) (by decide) (ref_narrow _ hv0) (ref_fits _ hv0) (g := (mkF m 6 #[rv a1, .val v0, .val v1, .val v2, .val v3, iv 0, .val v5] [v0, (.ref a1)])) rfl rfl (hb hby d1_6)
  have N2 := Fr.snoc X2 N1 g_a1
  have f3 : Fld Z h2 a1 "com/example/tuplet/tuplet/Commands$Option" "name" "Ljava/lang/String;" v0 := H1.same W2
  refine go_st (fun t k => st2 t k) ?_
  show Go _ _ _ _ (T2.setTop (mkF m 9 #[rv a1, .val v0, .val v1, .val v2, .val v3, iv 0, .val v5] []))
  refine go_st (fun t k => XS.aloadN X2.here hx rfl (hb hby d1_9) rfl rfl k) ?_
  show Go _ _ _ _ (T2.setTop (mkF m 10 #[rv a1, .val v0, .val v1, .val v2, .val v3, iv 0, .val v5] [(.ref a1)]))
  refine go_st (fun t k => XS.aloadN X2.here hx rfl (hb hby d1_10) rfl hv1 k) ?_
  show Go _ _ _ _ (T2.setTop (mkF m 11 #[rv a1, .val v0, .val v1, .val v2, .val v3, iv 0, .val v5] [v1, (.ref a1)]))
  have f4 : Fld Z h2 a1 "com/example/tuplet/tuplet/Commands$Option" "kind" "Lcom/example/tuplet/tuplet/Commands$Kind;" .null := (H2.other W2 (Or.inr (slot_ne (Or.inr (w59 hw)) (Or.inr (w57 hw)) (by decide) (t := (.object "com/example/tuplet/tuplet/Commands$Kind")) (t' := (.object "java/lang/String")) (by decide) (by decide))))
  have f5 : Exa Z h2 a1 "com/example/tuplet/tuplet/Commands$Option" := (H0.wr W2)
  obtain ⟨T6, h6, X6, e6, W6, st6⟩ := putF X2 hx hZ hown (host := "") (Or.inl (w58 hw)) Via.refl e2 f4 f5 (Or.inr ⟨(w59 hw), rfl, hnm⟩) (w46 hw) (ty := (.object "com/example/tuplet/tuplet/Commands$Kind")) (by decide) (ref_narrow _ hv1) (ref_fits _ hv1) (g := (mkF m 11 #[rv a1, .val v0, .val v1, .val v2, .val v3, iv 0, .val v5] [v1, (.ref a1)])) rfl rfl (hb hby d1_11)
  have N6 := Fr.snoc X6 N2 g_a1
  have f7 : Fld Z h6 a1 "com/example/tuplet/tuplet/Commands$Option" "kind" "Lcom/example/tuplet/tuplet/Commands$Kind;" v1 := f4.same W6
  refine go_st (fun t k => st6 t k) ?_
  show Go _ _ _ _ (T6.setTop (mkF m 14 #[rv a1, .val v0, .val v1, .val v2, .val v3, iv 0, .val v5] []))
  refine go_st (fun t k => XS.aloadN X6.here hx rfl (hb hby d1_14) rfl rfl k) ?_
  show Go _ _ _ _ (T6.setTop (mkF m 15 #[rv a1, .val v0, .val v1, .val v2, .val v3, iv 0, .val v5] [(.ref a1)]))
  refine go_st (fun t k => XS.aloadN X6.here hx rfl (hb hby d1_15) rfl hv2 k) ?_
  show Go _ _ _ _ (T6.setTop (mkF m 16 #[rv a1, .val v0, .val v1, .val v2, .val v3, iv 0, .val v5] [v2, (.ref a1)]))
  have f8 : Fld Z h6 a1 "com/example/tuplet/tuplet/Commands$Option" "label" "Ljava/lang/String;" .null := ((H3.other W2 (Or.inr (slot_ne (Or.inr (w61 hw)) (Or.inr (w57 hw)) (by decide) (t := (.object "java/lang/String")) (t' := (.object "java/lang/String")) (by decide) (by decide)))).other W6 (Or.inr (slot_ne (Or.inr (w61 hw)) (Or.inr (w59 hw)) (by decide) (t := (.object "java/lang/String")) (t' := (.object "com/example/tuplet/tuplet/Commands$Kind")) (by decide) (by decide))))
  have f9 : Exa Z h6 a1 "com/example/tuplet/tuplet/Commands$Option" := (f5.wr W6)
  obtain ⟨T10, h10, X10, e10, W10, st10⟩ := putF X6 hx hZ hown (host := "") (Or.inl (w60 hw)) Via.refl e6 f8 f9 (Or.inr ⟨(w61 hw), rfl, hnm⟩) (w46 hw) (ty := (.object "java/lang/String")) (by decide) (ref_narrow _ hv2) (ref_fits _ hv2) (g := (mkF m 16 #[rv a1, .val v0, .val v1, .val v2, .val v3, iv 0, .val v5] [v2, (.ref a1)])) rfl rfl (hb hby d1_16)
  have N10 := Fr.snoc X10 N6 g_a1
  have f11 : Fld Z h10 a1 "com/example/tuplet/tuplet/Commands$Option" "label" "Ljava/lang/String;" v2 := f8.same W10
  refine go_st (fun t k => st10 t k) ?_
  show Go _ _ _ _ (T10.setTop (mkF m 19 #[rv a1, .val v0, .val v1, .val v2, .val v3, iv 0, .val v5] []))
  refine go_st (fun t k => XS.aloadN X10.here hx rfl (hb hby d1_19) rfl rfl k) ?_
  show Go _ _ _ _ (T10.setTop (mkF m 20 #[rv a1, .val v0, .val v1, .val v2, .val v3, iv 0, .val v5] [(.ref a1)]))
  refine go_st (fun t k => XS.aload X10.here hx rfl (hb hby d1_20) rfl hv3 k) ?_
  show Go _ _ _ _ (T10.setTop (mkF m 22 #[rv a1, .val v0, .val v1, .val v2, .val v3, iv 0, .val v5] [v3, (.ref a1)]))
  have f12 : Fld Z h10 a1 "com/example/tuplet/tuplet/Commands$Option" "help" "Ljava/lang/String;" .null := (((H4.other W2 (Or.inr (slot_ne (Or.inr (w63 hw)) (Or.inr (w57 hw)) (by decide) (t := (.object "java/lang/String")) (t' := (.object "java/lang/String")) (by decide) (by decide)))).other W6 (Or.inr (slot_ne (Or.inr (w63 hw)) (Or.inr (w59 hw)) (by decide) (t := (.object "java/lang/String")) (t' := (.object "com/example/tuplet/tuplet/Commands$Kind")) (by decide) (by decide)))).other W10 (Or.inr (slot_ne (Or.inr (w63 hw)) (Or.inr (w61 hw)) (by decide) (t := (.object "java/lang/String")) (t' := (.object "java/lang/String")) (by decide) (by decide))))
  have f13 : Exa Z h10 a1 "com/example/tuplet/tuplet/Commands$Option" := (f9.wr W10)
  obtain ⟨T14, h14, X14, e14, W14, st14⟩ := putF X10 hx hZ hown (host := "") (Or.inl (w62 hw)) Via.refl e10 f12 f13 (Or.inr ⟨(w63 hw), rfl, hnm⟩) (w46 hw) (ty := (.object "java/lang/String")) (by decide) (ref_narrow _ hv3) (ref_fits _ hv3) (g := (mkF m 22 #[rv a1, .val v0, .val v1, .val v2, .val v3, iv 0, .val v5] [v3, (.ref a1)])) rfl rfl (hb hby d1_22)
  have N14 := Fr.snoc X14 N10 g_a1
  have f15 : Fld Z h14 a1 "com/example/tuplet/tuplet/Commands$Option" "help" "Ljava/lang/String;" v3 := f12.same W14
  refine go_st (fun t k => st14 t k) ?_
  show Go _ _ _ _ (T14.setTop (mkF m 25 #[rv a1, .val v0, .val v1, .val v2, .val v3, iv 0, .val v5] []))
  refine go_st (fun t k => XS.aloadN X14.here hx rfl (hb hby d1_25) rfl rfl k) ?_
  show Go _ _ _ _ (T14.setTop (mkF m 26 #[rv a1, .val v0, .val v1, .val v2, .val v3, iv 0, .val v5] [(.ref a1)]))
  refine go_st (fun t k => XS.iload X14.here hx rfl (hb hby d1_26) rfl k) ?_
  show Go _ _ _ _ (T14.setTop (mkF m 28 #[rv a1, .val v0, .val v1, .val v2, .val v3, iv 0, .val v5] [(.int 0), (.ref a1)]))
  have f16 : Fld Z h14 a1 "com/example/tuplet/tuplet/Commands$Option" "required" "Z" (.int 0) := ((((H5.other W2 (Or.inr (slot_ne (Or.inr (w65 hw)) (Or.inr (w57 hw)) (by decide) (t := .boolean) (t' := (.object "java/lang/String")) (by decide) (by decide)))).other W6 (Or.inr (slot_ne (Or.inr (w65 hw)) (Or.inr (w59 hw)) (by decide) (t := .boolean) (t' := (.object "com/example/tuplet/tuplet/Commands$Kind")) (by decide) (by decide)))).other W10 (Or.inr (slot_ne (Or.inr (w65 hw)) (Or.inr (w61 hw)) (by decide) (t := .boolean) (t' := (.object "java/lang/String")) (by decide) (by decide)))).other W14 (Or.inr (slot_ne (Or.inr (w65 hw)) (Or.inr (w63 hw)) (by decide) (t := .boolean) (t' := (.object "java/lang/String")) (by decide) (by decide))))
  have f17 : Exa Z h14 a1 "com/example/tuplet/tuplet/Commands$Option" := (f13.wr W14)
  obtain ⟨T18, h18, X18, e18, W18, st18⟩ := putFN X14 hx hZ hown (w64 hw) Via.refl e14 f16 f17 (Or.inr ⟨(w65 hw), rfl, hnm⟩) (w46 hw) (ty := .boolean) (v' := (.int 0)) (by decide) rfl rfl (g := (mkF m 28 #[rv a1, .val v0, .val v1, .val v2, .val v3, iv 0, .val v5] [(.int 0), (.ref a1)])) rfl rfl (hb hby d1_28)
  have N18 := Fr.snoc X18 N14 g_a1
  have f19 : Fld Z h18 a1 "com/example/tuplet/tuplet/Commands$Option" "required" "Z" (.int 0) := f16.same W18
  refine go_st (fun t k => st18 t k) ?_
  show Go _ _ _ _ (T18.setTop (mkF m 31 #[rv a1, .val v0, .val v1, .val v2, .val v3, iv 0, .val v5] []))
  refine go_st (fun t k => XS.aloadN X18.here hx rfl (hb hby d1_31) rfl rfl k) ?_
  show Go _ _ _ _ (T18.setTop (mkF m 32 #[rv a1, .val v0, .val v1, .val v2, .val v3, iv 0, .val v5] [(.ref a1)]))
  refine go_st (fun t k => XS.aload X18.here hx rfl (hb hby d1_32) rfl hv5 k) ?_
  show Go _ _ _ _ (T18.setTop (mkF m 34 #[rv a1, .val v0, .val v1, .val v2, .val v3, iv 0, .val v5] [v5, (.ref a1)]))
  have f20 : Fld Z h18 a1 "com/example/tuplet/tuplet/Commands$Option" "byDefault" "Ljava/lang/String;" .null := (((((H6.other W2 (Or.inr (slot_ne (Or.inr (w67 hw)) (Or.inr (w57 hw)) (by decide) (t := (.object "java/lang/String")) (t' := (.object "java/lang/String")) (by decide) (by decide)))).other W6 (Or.inr (slot_ne (Or.inr (w67 hw)) (Or.inr (w59 hw)) (by decide) (t := (.object "java/lang/String")) (t' := (.object "com/example/tuplet/tuplet/Commands$Kind")) (by decide) (by decide)))).other W10 (Or.inr (slot_ne (Or.inr (w67 hw)) (Or.inr (w61 hw)) (by decide) (t := (.object "java/lang/String")) (t' := (.object "java/lang/String")) (by decide) (by decide)))).other W14 (Or.inr (slot_ne (Or.inr (w67 hw)) (Or.inr (w63 hw)) (by decide) (t := (.object "java/lang/String")) (t' := (.object "java/lang/String")) (by decide) (by decide)))).other W18 (Or.inr (slot_ne (Or.inr (w67 hw)) (Or.inr (w65 hw)) (by decide) (t := (.object "java/lang/String")) (t' := .boolean) (by decide) (by decide))))
  have f21 : Exa Z h18 a1 "com/example/tuplet/tuplet/Commands$Option" := (f17.wr W18)
  obtain ⟨T22, h22, X22, e22, W22, st22⟩ := putF X18 hx hZ hown (host := "") (Or.inl (w66 hw)) Via.refl e18 f20 f21 (Or.inr ⟨(w67 hw), rfl, hnm⟩) (w46 hw) (ty := (.object "java/lang/String")) (by decide) (ref_narrow _ hv5) (ref_fits _ hv5) (g := (mkF m 34 #[rv a1, .val v0, .val v1, .val v2, .val v3, iv 0, .val v5] [v5, (.ref a1)])) rfl rfl (hb hby d1_34)
  have N22 := Fr.snoc X22 N18 g_a1
  have f23 : Fld Z h22 a1 "com/example/tuplet/tuplet/Commands$Option" "byDefault" "Ljava/lang/String;" v5 := f20.same W22
  refine go_st (fun t k => st22 t k) ?_
  show Go _ _ _ _ (T22.setTop (mkF m 37 #[rv a1, .val v0, .val v1, .val v2, .val v3, iv 0, .val v5] []))
  have f24 : Exa Z h22 a1 "com/example/tuplet/tuplet/Commands$Option" := (f21.wr W22)
  have f25 : Fld Z h22 a1 "com/example/tuplet/tuplet/Commands$Option" "name" "Ljava/lang/String;" v0 := (((((f3.other W6 (Or.inr (slot_ne (Or.inr (w57 hw)) (Or.inr (w59 hw)) (by decide) (t := (.object "java/lang/String")) (t' := (.object "com/example/tuplet/tuplet/Commands$Kind")) (by decide) (by decide)))).other W10 (Or.inr (slot_ne (Or.inr (w57 hw)) (Or.inr (w61 hw)) (by decide) (t := (.object "java/lang/String")) (t' := (.object "java/lang/String")) (by decide) (by decide)))).other W14 (Or.inr (slot_ne (Or.inr (w57 hw)) (Or.inr (w63 hw)) (by decide) (t := (.object "java/lang/String")) (t' := (.object "java/lang/String")) (by decide) (by decide)))).other W18 (Or.inr (slot_ne (Or.inr (w57 hw)) (Or.inr (w65 hw)) (by decide) (t := (.object "java/lang/String")) (t' := .boolean) (by decide) (by decide)))).other W22 (Or.inr (slot_ne (Or.inr (w57 hw)) (Or.inr (w67 hw)) (by decide) (t := (.object "java/lang/String")) (t' := (.object "java/lang/String")) (by decide) (by decide))))
  have f26 : Fld Z h22 a1 "com/example/tuplet/tuplet/Commands$Option" "kind" "Lcom/example/tuplet/tuplet/Commands$Kind;" v1 := ((((f7.other W10 (Or.inr (slot_ne (Or.inr (w59 hw)) (Or.inr (w61 hw)) (by decide) (t := (.object "com/example/tuplet/tuplet/Commands$Kind")) (t' := (.object "java/lang/String")) (by decide) (by decide)))).other W14 (Or.inr (slot_ne (Or.inr (w59 hw)) (Or.inr (w63 hw)) (by decide) (t := (.object "com/example/tuplet/tuplet/Commands$Kind")) (t' := (.object "java/lang/String")) (by decide) (by decide)))).other W18 (Or.inr (slot_ne (Or.inr (w59 hw)) (Or.inr (w65 hw)) (by decide) (t := (.object "com/example/tuplet/tuplet/Commands$Kind")) (t' := .boolean) (by decide) (by decide)))).other W22 (Or.inr (slot_ne (Or.inr (w59 hw)) (Or.inr (w67 hw)) (by decide) (t := (.object "com/example/tuplet/tuplet/Commands$Kind")) (t' := (.object "java/lang/String")) (by decide) (by decide))))
  have f27 : Fld Z h22 a1 "com/example/tuplet/tuplet/Commands$Option" "label" "Ljava/lang/String;" v2 := (((f11.other W14 (Or.inr (slot_ne (Or.inr (w61 hw)) (Or.inr (w63 hw)) (by decide) (t := (.object "java/lang/String")) (t' := (.object "java/lang/String")) (by decide) (by decide)))).other W18 (Or.inr (slot_ne (Or.inr (w61 hw)) (Or.inr (w65 hw)) (by decide) (t := (.object "java/lang/String")) (t' := .boolean) (by decide) (by decide)))).other W22 (Or.inr (slot_ne (Or.inr (w61 hw)) (Or.inr (w67 hw)) (by decide) (t := (.object "java/lang/String")) (t' := (.object "java/lang/String")) (by decide) (by decide))))
  have f28 : Fld Z h22 a1 "com/example/tuplet/tuplet/Commands$Option" "help" "Ljava/lang/String;" v3 := ((f15.other W18 (Or.inr (slot_ne (Or.inr (w63 hw)) (Or.inr (w65 hw)) (by decide) (t := (.object "java/lang/String")) (t' := .boolean) (by decide) (by decide)))).other W22 (Or.inr (slot_ne (Or.inr (w63 hw)) (Or.inr (w67 hw)) (by decide) (t := (.object "java/lang/String")) (t' := (.object "java/lang/String")) (by decide) (by decide))))
  have f29 : Fld Z h22 a1 "com/example/tuplet/tuplet/Commands$Option" "required" "Z" (.int 0) := (f19.other W22 (Or.inr (slot_ne (Or.inr (w65 hw)) (Or.inr (w67 hw)) (by decide) (t := .boolean) (t' := (.object "java/lang/String")) (by decide) (by decide))))
  have ke30 : Keep h0 h2 [a1] := (Keep.wr (Keep.refl h0 [a1]) W2 (Or.inl (List.mem_of_getElem? (i := 0) rfl)))
  have ke31 : Keep h0 h6 [a1] := (Keep.wr ke30 W6 (Or.inl (List.mem_of_getElem? (i := 0) rfl)))
  have ke32 : Keep h0 h10 [a1] := (Keep.wr ke31 W10 (Or.inl (List.mem_of_getElem? (i := 0) rfl)))
  have ke33 : Keep h0 h14 [a1] := (Keep.wr ke32 W14 (Or.inl (List.mem_of_getElem? (i := 0) rfl)))
  have ke34 : Keep h0 h18 [a1] := (Keep.wr ke33 W18 (Or.inl (List.mem_of_getElem? (i := 0) rfl)))
  have ke35 : Keep h0 h22 [a1] := (Keep.wr ke34 W22 (Or.inl (List.mem_of_getElem? (i := 0) rfl)))
  obtain ⟨fs, hr, hrun, hended, hW, hsame⟩ := X22.leave (v := none) (fun _ => rfl)
  refine ⟨_, _, ?_, hrun, hended, _, _, rfl, ?_, ⟨_, rfl⟩, hW, hsame.mono (by decide) (by decide)⟩
  · exact X22.returnOut hx Bd.returns (hb hby d1_37) hr
  · show Q_ctor0 _ _ _ _ _ _ _ _ _ _ T22.heap _
    rw [e22]
    exact ⟨rfl, N22, ke35, f24, f25, f26, f27, f28, f29, f23⟩
def Q_ctor1 (Z : State) (a1 : Addr) (v0 : Value) (v1 : Value) (v2 : Value) (v3 : Value) (v5 : Value) (h0 : Heap) (n0 : Nat) (vR : Option Value) (h : Heap) (L : List Loc) : Prop := vR = none ∧ Fr n0 L ∧ Keep h0 h [a1] ∧ (Exa Z h a1 "com/example/tuplet/tuplet/Commands$Option") ∧ (Fld Z h a1 "com/example/tuplet/tuplet/Commands$Option" "name" "Ljava/lang/String;" v0) ∧ (Fld Z h a1 "com/example/tuplet/tuplet/Commands$Option" "kind" "Lcom/example/tuplet/tuplet/Commands$Kind;" v1) ∧ (Fld Z h a1 "com/example/tuplet/tuplet/Commands$Option" "label" "Ljava/lang/String;" v2) ∧ (Fld Z h a1 "com/example/tuplet/tuplet/Commands$Option" "help" "Ljava/lang/String;" v3) ∧ (Fld Z h a1 "com/example/tuplet/tuplet/Commands$Option" "required" "Z" (.int 1)) ∧ (Fld Z h a1 "com/example/tuplet/tuplet/Commands$Option" "byDefault" "Ljava/lang/String;" v5)
theorem ef_ctor1 (m : MethodId) (x0 : Addr) (x1 : Value) (hx1 : x1.isRef = true) (x2 : Value) (hx2 : x2.isRef = true) (x3 : Value) (hx3 : x3.isRef = true) (x4 : Value) (hx4 : x4.isRef = true) (x5 : Int32) (x6 : Value) (hx6 : x6.isRef = true) : entryFrame m #[(.ref x0), x1, x2, x3, x4, (.int x5), x6] 7 = mkF m 0 #[.val (.ref x0), .val x1, .val x2, .val x3, .val x4, .val (.int x5), .val x6] [] := by rcases ref_cases hx1 with rfl | ⟨y1, rfl⟩ <;> rcases ref_cases hx2 with rfl | ⟨y2, rfl⟩ <;> rcases ref_cases hx3 with rfl | ⟨y3, rfl⟩ <;> rcases ref_cases hx4 with rfl | ⟨y4, rfl⟩ <;> rcases ref_cases hx6 with rfl | ⟨y6, rfl⟩ <;> simp [entryFrame, mkF, argsToLocals, Value.category]
set_option maxRecDepth 65536 in
set_option maxHeartbeats 40000000 in
theorem rm_ctor1 (l : Launch) (Z : State) (a0 : Array Value) (hw : ∀ d ∈ tables_1, d.before a0 Z = true) (ws : List Jvm.Cond) (a1 : Addr) (v0 : Value) (v1 : Value) (v2 : Value) (v3 : Value) (v5 : Value) (h0 : Heap) (n0 : Nat) (Z0 : n0 ≤ h0.size) (H0 : Exa Z h0 a1 "com/example/tuplet/tuplet/Commands$Option") (H1 : Fld Z h0 a1 "com/example/tuplet/tuplet/Commands$Option" "name" "Ljava/lang/String;" .null) (H2 : Fld Z h0 a1 "com/example/tuplet/tuplet/Commands$Option" "kind" "Lcom/example/tuplet/tuplet/Commands$Kind;" .null) (H3 : Fld Z h0 a1 "com/example/tuplet/tuplet/Commands$Option" "label" "Ljava/lang/String;" .null) (H4 : Fld Z h0 a1 "com/example/tuplet/tuplet/Commands$Option" "help" "Ljava/lang/String;" .null) (H5 : Fld Z h0 a1 "com/example/tuplet/tuplet/Commands$Option" "required" "Z" (.int 0)) (H6 : Fld Z h0 a1 "com/example/tuplet/tuplet/Commands$Option" "byDefault" "Ljava/lang/String;" .null) (g_a1 : n0 ≤ a1) (hv0 : v0.isRef = true) (hv1 : v1.isRef = true) (hv2 : v2.isRef = true) (hv3 : v3.isRef = true) (hv5 : v5.isRef = true) :
    MetFree l (⟨"com/example/tuplet/tuplet/Commands$Option", "<init>", "(Ljava/lang/String;Lcom/example/tuplet/tuplet/Commands$Kind;Ljava/lang/String;Ljava/lang/String;ZLjava/lang/String;)V"⟩ : MethodName) (head1 (Jvm.Cond.code (⟨"com/example/tuplet/tuplet/Commands$Option", "<init>", "(Ljava/lang/String;Lcom/example/tuplet/tuplet/Commands$Kind;Ljava/lang/String;Ljava/lang/String;ZLjava/lang/String;)V"⟩ : MethodName) prog_6_method_1_code 7 none :: ws) ({ frames := 2, cells := 0, slots := 0, locals := 24 } : Room)) (fun a U => a = #[(.ref a1), v0, v1, v2, v3, (.int 1), v5] ∧ Z.Warmed39 U.vm ∧ U.heap = h0) (fun _ _ _ _ _ => True) (fun _ U o U' => ∃ v L, o = .returned v ∧ Q_ctor1 Z a1 v0 v1 v2 v3 v5 h0 n0 v U'.heap L ∧ FrameEnd U o U' L ({ frames := 2, cells := 0, slots := 0, locals := 24 } : Room).cells ({ frames := 2, cells := 0, slots := 0, locals := 24 } : Room).slots) := by
  refine MetFree.of_bodySF (plainFor_of_name pn_com_example_tuplet_tuplet_Commands_Option) hisR ?_
  intro p e s m args below meth c s₁ Bd hml0 hP hK
  obtain ⟨rfl, hZ, hh⟩ := hP
  have hx := Bd.exec
  have hby := Bd.bytes
  have hml : c.maxLocals = 7 := hml0
  have hown : s.vm.findClass "com/example/tuplet/tuplet/Commands$Option" = some m.cls := findClass_of_methodNamed Bd.named
  have hnm := (name_of_methodNamed Bd.named Bd.method).1
  have X0 : Stand p l e ({ frames := 2, cells := 0, slots := 0, locals := 24 } : Room) s m #[(.ref a1), v0, v1, v2, v3, (.int 1), v5] below meth c s₁ [] 0 0 := Stand.of_body Bd
  have e0 : s₁.heap = h0 := by rw [← hh, Bd.state]; rfl
  have N0 := Fr.nil n0
  refine go_st (fun t k => castTop (ef_ctor1 m a1 v0 hv0 v1 hv1 v2 hv2 v3 hv3 (1 : Int32) v5 hv5) k) ?_
  show Go _ _ _ _ (s₁.setTop (mkF m 0 #[rv a1, .val v0, .val v1, .val v2, .val v3, iv 1, .val v5] []))
  refine go_st (fun t k => XS.aloadN X0.here hx rfl (hb hby d1_0) rfl rfl k) ?_
  show Go _ _ _ _ (s₁.setTop (mkF m 1 #[rv a1, .val v0, .val v1, .val v2, .val v3, iv 1, .val v5] [(.ref a1)]))
  obtain ⟨_, _, ⟨T1, L1, kk1, nn1⟩, -, X1, ⟨Lc1, hQ1, lq1, yq1, zq1⟩, st1⟩ := X0.specialBack hx (y := (⟨"java/lang/Record", "<init>", "()V"⟩ : MethodName)) rfl hown (mvT hZ (w50 hw)) (mvT hZ (w51 hw)) (mvT hZ (w54 hw)) (by decide) (backOf (W := 0) (rm_rec l Z a0 hw [] a1 h0 n0 (Nat.le_trans Z0 (Nat.le_refl _)) ) hZ (w54 hw) (w53 hw) (by decide) (by decide)) (g := (mkF m 1 #[rv a1, .val v0, .val v1, .val v2, .val v3, iv 1, .val v5] [(.ref a1)])) rfl (by rw [hml]; rfl) (Steps.refl _) (a := a1) (argsL := []) (rest := []) (lenOf pd_0 rfl) rfl (by show 2 * 0 + _ ≤ _; exact Nat.le_of_eq rfl) (hb hby d1_1) (fun _ _ => ⟨rfl, e0, (by decide : 0 + 0 ≤ _), (by decide : 0 + 0 ≤ _)⟩)
  dsimp only [Pt.U, Pt.locs, Pt.cells, Pt.slots] at X1 lq1 yq1 zq1 st1 hQ1
  obtain rfl : kk1 = 0 := yq1
  obtain rfl : nn1 = 0 := zq1
  obtain ⟨h1, e1⟩ : ∃ z, T1.heap = z := ⟨_, rfl⟩
  rw [e1] at hQ1
  obtain ⟨rfl, N1q, he1⟩ := hQ1
  have N1 : Fr n0 L1 := by rw [lq1]; exact Fr.app N0 N1q
  rw [he1] at e1
  refine go_tr st1 ?_
  show Go _ _ _ _ (T1.setTop (mkF m 4 #[rv a1, .val v0, .val v1, .val v2, .val v3, iv 1, .val v5] []))
  refine go_st (fun t k => XS.aloadN X1.here hx rfl (hb hby d1_4) rfl rfl k) ?_
  show Go _ _ _ _ (T1.setTop (mkF m 5 #[rv a1, .val v0, .val v1, .val v2, .val v3, iv 1, .val v5] [(.ref a1)]))
  refine go_st (fun t k => XS.aloadN X1.here hx rfl (hb hby d1_5) rfl hv0 k) ?_
  show Go _ _ _ _ (T1.setTop (mkF m 6 #[rv a1, .val v0, .val v1, .val v2, .val v3, iv 1, .val v5] [v0, (.ref a1)]))
  obtain ⟨T2, h2, X2, e2, W2, st2⟩ := putF X1 hx hZ hown (host := "") (Or.inl (w56 hw)) Via.refl e1 H1 H0 (Or.inr ⟨(w57 hw), rfl, hnm⟩) (w46 hw) (ty := (.object "java/lang/String")) (by decide) (ref_narrow _ hv0) (ref_fits _ hv0) (g := (mkF m 6 #[rv a1, .val v0, .val v1, .val v2, .val v3, iv 1, .val v5] [v0, (.ref a1)])) rfl rfl (hb hby d1_6)
  have N2 := Fr.snoc X2 N1 g_a1
  have f3 : Fld Z h2 a1 "com/example/tuplet/tuplet/Commands$Option" "name" "Ljava/lang/String;" v0 := H1.same W2
  refine go_st (fun t k => st2 t k) ?_
  show Go _ _ _ _ (T2.setTop (mkF m 9 #[rv a1, .val v0, .val v1, .val v2, .val v3, iv 1, .val v5] []))
  refine go_st (fun t k => XS.aloadN X2.here hx rfl (hb hby d1_9) rfl rfl k) ?_
  show Go _ _ _ _ (T2.setTop (mkF m 10 #[rv a1, .val v0, .val v1, .val v2, .val v3, iv 1, .val v5] [(.ref a1)]))
  refine go_st (fun t k => XS.aloadN X2.here hx rfl (hb hby d1_10) rfl hv1 k) ?_
  show Go _ _ _ _ (T2.setTop (mkF m 11 #[rv a1, .val v0, .val v1, .val v2, .val v3, iv 1, .val v5] [v1, (.ref a1)]))
  have f4 : Fld Z h2 a1 "com/example/tuplet/tuplet/Commands$Option" "kind" "Lcom/example/tuplet/tuplet/Commands$Kind;" .null := (H2.other W2 (Or.inr (slot_ne (Or.inr (w59 hw)) (Or.inr (w57 hw)) (by decide) (t := (.object "com/example/tuplet/tuplet/Commands$Kind")) (t' := (.object "java/lang/String")) (by decide) (by decide))))
  have f5 : Exa Z h2 a1 "com/example/tuplet/tuplet/Commands$Option" := (H0.wr W2)
  obtain ⟨T6, h6, X6, e6, W6, st6⟩ := putF X2 hx hZ hown (host := "") (Or.inl (w58 hw)) Via.refl e2 f4 f5 (Or.inr ⟨(w59 hw), rfl, hnm⟩) (w46 hw) (ty := (.object "com/example/tuplet/tuplet/Commands$Kind")) (by decide) (ref_narrow _ hv1) (ref_fits _ hv1) (g := (mkF m 11 #[rv a1, .val v0, .val v1, .val v2, .val v3, iv 1, .val v5] [v1, (.ref a1)])) rfl rfl (hb hby d1_11)
  have N6 := Fr.snoc X6 N2 g_a1
  have f7 : Fld Z h6 a1 "com/example/tuplet/tuplet/Commands$Option" "kind" "Lcom/example/tuplet/tuplet/Commands$Kind;" v1 := f4.same W6
  refine go_st (fun t k => st6 t k) ?_
  show Go _ _ _ _ (T6.setTop (mkF m 14 #[rv a1, .val v0, .val v1, .val v2, .val v3, iv 1, .val v5] []))
  refine go_st (fun t k => XS.aloadN X6.here hx rfl (hb hby d1_14) rfl rfl k) ?_
  show Go _ _ _ _ (T6.setTop (mkF m 15 #[rv a1, .val v0, .val v1, .val v2, .val v3, iv 1, .val v5] [(.ref a1)]))
  refine go_st (fun t k => XS.aloadN X6.here hx rfl (hb hby d1_15) rfl hv2 k) ?_
  show Go _ _ _ _ (T6.setTop (mkF m 16 #[rv a1, .val v0, .val v1, .val v2, .val v3, iv 1, .val v5] [v2, (.ref a1)]))
  have f8 : Fld Z h6 a1 "com/example/tuplet/tuplet/Commands$Option" "label" "Ljava/lang/String;" .null := ((H3.other W2 (Or.inr (slot_ne (Or.inr (w61 hw)) (Or.inr (w57 hw)) (by decide) (t := (.object "java/lang/String")) (t' := (.object "java/lang/String")) (by decide) (by decide)))).other W6 (Or.inr (slot_ne (Or.inr (w61 hw)) (Or.inr (w59 hw)) (by decide) (t := (.object "java/lang/String")) (t' := (.object "com/example/tuplet/tuplet/Commands$Kind")) (by decide) (by decide))))
  have f9 : Exa Z h6 a1 "com/example/tuplet/tuplet/Commands$Option" := (f5.wr W6)
  obtain ⟨T10, h10, X10, e10, W10, st10⟩ := putF X6 hx hZ hown (host := "") (Or.inl (w60 hw)) Via.refl e6 f8 f9 (Or.inr ⟨(w61 hw), rfl, hnm⟩) (w46 hw) (ty := (.object "java/lang/String")) (by decide) (ref_narrow _ hv2) (ref_fits _ hv2) (g := (mkF m 16 #[rv a1, .val v0, .val v1, .val v2, .val v3, iv 1, .val v5] [v2, (.ref a1)])) rfl rfl (hb hby d1_16)
  have N10 := Fr.snoc X10 N6 g_a1
  have f11 : Fld Z h10 a1 "com/example/tuplet/tuplet/Commands$Option" "label" "Ljava/lang/String;" v2 := f8.same W10
  refine go_st (fun t k => st10 t k) ?_
  show Go _ _ _ _ (T10.setTop (mkF m 19 #[rv a1, .val v0, .val v1, .val v2, .val v3, iv 1, .val v5] []))
  refine go_st (fun t k => XS.aloadN X10.here hx rfl (hb hby d1_19) rfl rfl k) ?_
  show Go _ _ _ _ (T10.setTop (mkF m 20 #[rv a1, .val v0, .val v1, .val v2, .val v3, iv 1, .val v5] [(.ref a1)]))
  refine go_st (fun t k => XS.aload X10.here hx rfl (hb hby d1_20) rfl hv3 k) ?_
  show Go _ _ _ _ (T10.setTop (mkF m 22 #[rv a1, .val v0, .val v1, .val v2, .val v3, iv 1, .val v5] [v3, (.ref a1)]))
  have f12 : Fld Z h10 a1 "com/example/tuplet/tuplet/Commands$Option" "help" "Ljava/lang/String;" .null := (((H4.other W2 (Or.inr (slot_ne (Or.inr (w63 hw)) (Or.inr (w57 hw)) (by decide) (t := (.object "java/lang/String")) (t' := (.object "java/lang/String")) (by decide) (by decide)))).other W6 (Or.inr (slot_ne (Or.inr (w63 hw)) (Or.inr (w59 hw)) (by decide) (t := (.object "java/lang/String")) (t' := (.object "com/example/tuplet/tuplet/Commands$Kind")) (by decide) (by decide)))).other W10 (Or.inr (slot_ne (Or.inr (w63 hw)) (Or.inr (w61 hw)) (by decide) (t := (.object "java/lang/String")) (t' := (.object "java/lang/String")) (by decide) (by decide))))
  have f13 : Exa Z h10 a1 "com/example/tuplet/tuplet/Commands$Option" := (f9.wr W10)
  obtain ⟨T14, h14, X14, e14, W14, st14⟩ := putF X10 hx hZ hown (host := "") (Or.inl (w62 hw)) Via.refl e10 f12 f13 (Or.inr ⟨(w63 hw), rfl, hnm⟩) (w46 hw) (ty := (.object "java/lang/String")) (by decide) (ref_narrow _ hv3) (ref_fits _ hv3) (g := (mkF m 22 #[rv a1, .val v0, .val v1, .val v2, .val v3, iv 1, .val v5] [v3, (.ref a1)])) rfl rfl (hb hby d1_22)
  have N14 := Fr.snoc X14 N10 g_a1
  have f15 : Fld Z h14 a1 "com/example/tuplet/tuplet/Commands$Option" "help" "Ljava/lang/String;" v3 := f12.same W14
  refine go_st (fun t k => st14 t k) ?_
  show Go _ _ _ _ (T14.setTop (mkF m 25 #[rv a1, .val v0, .val v1, .val v2, .val v3, iv 1, .val v5] []))
  refine go_st (fun t k => XS.aloadN X14.here hx rfl (hb hby d1_25) rfl rfl k) ?_
  show Go _ _ _ _ (T14.setTop (mkF m 26 #[rv a1, .val v0, .val v1, .val v2, .val v3, iv 1, .val v5] [(.ref a1)]))
  refine go_st (fun t k => XS.iload X14.here hx rfl (hb hby d1_26) rfl k) ?_
  show Go _ _ _ _ (T14.setTop (mkF m 28 #[rv a1, .val v0, .val v1, .val v2, .val v3, iv 1, .val v5] [(.int 1), (.ref a1)]))
  have f16 : Fld Z h14 a1 "com/example/tuplet/tuplet/Commands$Option" "required" "Z" (.int 0) := ((((H5.other W2 (Or.inr (slot_ne (Or.inr (w65 hw)) (Or.inr (w57 hw)) (by decide) (t := .boolean) (t' := (.object "java/lang/String")) (by decide) (by decide)))).other W6 (Or.inr (slot_ne (Or.inr (w65 hw)) (Or.inr (w59 hw)) (by decide) (t := .boolean) (t' := (.object "com/example/tuplet/tuplet/Commands$Kind")) (by decide) (by decide)))).other W10 (Or.inr (slot_ne (Or.inr (w65 hw)) (Or.inr (w61 hw)) (by decide) (t := .boolean) (t' := (.object "java/lang/String")) (by decide) (by decide)))).other W14 (Or.inr (slot_ne (Or.inr (w65 hw)) (Or.inr (w63 hw)) (by decide) (t := .boolean) (t' := (.object "java/lang/String")) (by decide) (by decide))))
  have f17 : Exa Z h14 a1 "com/example/tuplet/tuplet/Commands$Option" := (f13.wr W14)
  obtain ⟨T18, h18, X18, e18, W18, st18⟩ := putFN X14 hx hZ hown (w64 hw) Via.refl e14 f16 f17 (Or.inr ⟨(w65 hw), rfl, hnm⟩) (w46 hw) (ty := .boolean) (v' := (.int 1)) (by decide) rfl rfl (g := (mkF m 28 #[rv a1, .val v0, .val v1, .val v2, .val v3, iv 1, .val v5] [(.int 1), (.ref a1)])) rfl rfl (hb hby d1_28)
  have N18 := Fr.snoc X18 N14 g_a1
  have f19 : Fld Z h18 a1 "com/example/tuplet/tuplet/Commands$Option" "required" "Z" (.int 1) := f16.same W18
  refine go_st (fun t k => st18 t k) ?_
  show Go _ _ _ _ (T18.setTop (mkF m 31 #[rv a1, .val v0, .val v1, .val v2, .val v3, iv 1, .val v5] []))
  refine go_st (fun t k => XS.aloadN X18.here hx rfl (hb hby d1_31) rfl rfl k) ?_
  show Go _ _ _ _ (T18.setTop (mkF m 32 #[rv a1, .val v0, .val v1, .val v2, .val v3, iv 1, .val v5] [(.ref a1)]))
  refine go_st (fun t k => XS.aload X18.here hx rfl (hb hby d1_32) rfl hv5 k) ?_
  show Go _ _ _ _ (T18.setTop (mkF m 34 #[rv a1, .val v0, .val v1, .val v2, .val v3, iv 1, .val v5] [v5, (.ref a1)]))
  have f20 : Fld Z h18 a1 "com/example/tuplet/tuplet/Commands$Option" "byDefault" "Ljava/lang/String;" .null := (((((H6.other W2 (Or.inr (slot_ne (Or.inr (w67 hw)) (Or.inr (w57 hw)) (by decide) (t := (.object "java/lang/String")) (t' := (.object "java/lang/String")) (by decide) (by decide)))).other W6 (Or.inr (slot_ne (Or.inr (w67 hw)) (Or.inr (w59 hw)) (by decide) (t := (.object "java/lang/String")) (t' := (.object "com/example/tuplet/tuplet/Commands$Kind")) (by decide) (by decide)))).other W10 (Or.inr (slot_ne (Or.inr (w67 hw)) (Or.inr (w61 hw)) (by decide) (t := (.object "java/lang/String")) (t' := (.object "java/lang/String")) (by decide) (by decide)))).other W14 (Or.inr (slot_ne (Or.inr (w67 hw)) (Or.inr (w63 hw)) (by decide) (t := (.object "java/lang/String")) (t' := (.object "java/lang/String")) (by decide) (by decide)))).other W18 (Or.inr (slot_ne (Or.inr (w67 hw)) (Or.inr (w65 hw)) (by decide) (t := (.object "java/lang/String")) (t' := .boolean) (by decide) (by decide))))
  have f21 : Exa Z h18 a1 "com/example/tuplet/tuplet/Commands$Option" := (f17.wr W18)
  obtain ⟨T22, h22, X22, e22, W22, st22⟩ := putF X18 hx hZ hown (host := "") (Or.inl (w66 hw)) Via.refl e18 f20 f21 (Or.inr ⟨(w67 hw), rfl, hnm⟩) (w46 hw) (ty := (.object "java/lang/String")) (by decide) (ref_narrow _ hv5) (ref_fits _ hv5) (g := (mkF m 34 #[rv a1, .val v0, .val v1, .val v2, .val v3, iv 1, .val v5] [v5, (.ref a1)])) rfl rfl (hb hby d1_34)
  have N22 := Fr.snoc X22 N18 g_a1
  have f23 : Fld Z h22 a1 "com/example/tuplet/tuplet/Commands$Option" "byDefault" "Ljava/lang/String;" v5 := f20.same W22
  refine go_st (fun t k => st22 t k) ?_
  show Go _ _ _ _ (T22.setTop (mkF m 37 #[rv a1, .val v0, .val v1, .val v2, .val v3, iv 1, .val v5] []))
  have f24 : Exa Z h22 a1 "com/example/tuplet/tuplet/Commands$Option" := (f21.wr W22)
  have f25 : Fld Z h22 a1 "com/example/tuplet/tuplet/Commands$Option" "name" "Ljava/lang/String;" v0 := (((((f3.other W6 (Or.inr (slot_ne (Or.inr (w57 hw)) (Or.inr (w59 hw)) (by decide) (t := (.object "java/lang/String")) (t' := (.object "com/example/tuplet/tuplet/Commands$Kind")) (by decide) (by decide)))).other W10 (Or.inr (slot_ne (Or.inr (w57 hw)) (Or.inr (w61 hw)) (by decide) (t := (.object "java/lang/String")) (t' := (.object "java/lang/String")) (by decide) (by decide)))).other W14 (Or.inr (slot_ne (Or.inr (w57 hw)) (Or.inr (w63 hw)) (by decide) (t := (.object "java/lang/String")) (t' := (.object "java/lang/String")) (by decide) (by decide)))).other W18 (Or.inr (slot_ne (Or.inr (w57 hw)) (Or.inr (w65 hw)) (by decide) (t := (.object "java/lang/String")) (t' := .boolean) (by decide) (by decide)))).other W22 (Or.inr (slot_ne (Or.inr (w57 hw)) (Or.inr (w67 hw)) (by decide) (t := (.object "java/lang/String")) (t' := (.object "java/lang/String")) (by decide) (by decide))))
  have f26 : Fld Z h22 a1 "com/example/tuplet/tuplet/Commands$Option" "kind" "Lcom/example/tuplet/tuplet/Commands$Kind;" v1 := ((((f7.other W10 (Or.inr (slot_ne (Or.inr (w59 hw)) (Or.inr (w61 hw)) (by decide) (t := (.object "com/example/tuplet/tuplet/Commands$Kind")) (t' := (.object "java/lang/String")) (by decide) (by decide)))).other W14 (Or.inr (slot_ne (Or.inr (w59 hw)) (Or.inr (w63 hw)) (by decide) (t := (.object "com/example/tuplet/tuplet/Commands$Kind")) (t' := (.object "java/lang/String")) (by decide) (by decide)))).other W18 (Or.inr (slot_ne (Or.inr (w59 hw)) (Or.inr (w65 hw)) (by decide) (t := (.object "com/example/tuplet/tuplet/Commands$Kind")) (t' := .boolean) (by decide) (by decide)))).other W22 (Or.inr (slot_ne (Or.inr (w59 hw)) (Or.inr (w67 hw)) (by decide) (t := (.object "com/example/tuplet/tuplet/Commands$Kind")) (t' := (.object "java/lang/String")) (by decide) (by decide))))
  have f27 : Fld Z h22 a1 "com/example/tuplet/tuplet/Commands$Option" "label" "Ljava/lang/String;" v2 := (((f11.other W14 (Or.inr (slot_ne (Or.inr (w61 hw)) (Or.inr (w63 hw)) (by decide) (t := (.object "java/lang/String")) (t' := (.object "java/lang/String")) (by decide) (by decide)))).other W18 (Or.inr (slot_ne (Or.inr (w61 hw)) (Or.inr (w65 hw)) (by decide) (t := (.object "java/lang/String")) (t' := .boolean) (by decide) (by decide)))).other W22 (Or.inr (slot_ne (Or.inr (w61 hw)) (Or.inr (w67 hw)) (by decide) (t := (.object "java/lang/String")) (t' := (.object "java/lang/String")) (by decide) (by decide))))
  have f28 : Fld Z h22 a1 "com/example/tuplet/tuplet/Commands$Option" "help" "Ljava/lang/String;" v3 := ((f15.other W18 (Or.inr (slot_ne (Or.inr (w63 hw)) (Or.inr (w65 hw)) (by decide) (t := (.object "java/lang/String")) (t' := .boolean) (by decide) (by decide)))).other W22 (Or.inr (slot_ne (Or.inr (w63 hw)) (Or.inr (w67 hw)) (by decide) (t := (.object "java/lang/String")) (t' := (.object "java/lang/String")) (by decide) (by decide))))
  have f29 : Fld Z h22 a1 "com/example/tuplet/tuplet/Commands$Option" "required" "Z" (.int 1) := (f19.other W22 (Or.inr (slot_ne (Or.inr (w65 hw)) (Or.inr (w67 hw)) (by decide) (t := .boolean) (t' := (.object "java/lang/String")) (by decide) (by decide))))
  have ke30 : Keep h0 h2 [a1] := (Keep.wr (Keep.refl h0 [a1]) W2 (Or.inl (List.mem_of_getElem? (i := 0) rfl)))
  have ke31 : Keep h0 h6 [a1] := (Keep.wr ke30 W6 (Or.inl (List.mem_of_getElem? (i := 0) rfl)))
  have ke32 : Keep h0 h10 [a1] := (Keep.wr ke31 W10 (Or.inl (List.mem_of_getElem? (i := 0) rfl)))
  have ke33 : Keep h0 h14 [a1] := (Keep.wr ke32 W14 (Or.inl (List.mem_of_getElem? (i := 0) rfl)))
  have ke34 : Keep h0 h18 [a1] := (Keep.wr ke33 W18 (Or.inl (List.mem_of_getElem? (i := 0) rfl)))
  have ke35 : Keep h0 h22 [a1] := (Keep.wr ke34 W22 (Or.inl (List.mem_of_getElem? (i := 0) rfl)))
  obtain ⟨fs, hr, hrun, hended, hW, hsame⟩ := X22.leave (v := none) (fun _ => rfl)
  refine ⟨_, _, ?_, hrun, hended, _, _, rfl, ?_, ⟨_, rfl⟩, hW, hsame.mono (by decide) (by decide)⟩
  · exact X22.returnOut hx Bd.returns (hb hby d1_37) hr
  · show Q_ctor1 _ _ _ _ _ _ _ _ _ _ T22.heap _
    rw [e22]
    exact ⟨rfl, N22, ke35, f24, f25, f26, f27, f28, f29, f23⟩
def Q_eqsame (Z : State) (a1 : Addr) (h0 : Heap) (n0 : Nat) (vR : Option Value) (h : Heap) (L : List Loc) : Prop := vR = some (.int 1) ∧ Fr n0 L ∧ h = h0
theorem ef_eqsame (m : MethodId) (x0 : Addr) (x1 : Addr) : entryFrame m #[(.ref x0), (.ref x1)] 3 = mkF m 0 #[.val (.ref x0), .val (.ref x1), .unset] [] := by first | (simp [entryFrame, mkF, argsToLocals, Value.category]; done) | rfl
set_option maxRecDepth 65536 in
set_option maxHeartbeats 40000000 in
theorem rm_eqsame (l : Launch) (Z : State) (a0 : Array Value) (hw : ∀ d ∈ tables_1, d.before a0 Z = true) (ws : List Jvm.Cond) (a1 : Addr) (h0 : Heap) (n0 : Nat) (Z0 : n0 ≤ h0.size)  :
    MetFree l (⟨"java/lang/String", "equals", "(Ljava/lang/Object;)Z"⟩ : MethodName) (head1 (Jvm.Cond.code (⟨"java/lang/String", "equals", "(Ljava/lang/Object;)Z"⟩ : MethodName) jdk_42_method_66_code 3 (some .boolean) :: ws) ({ frames := 0, cells := 0, slots := 0, locals := 0 } : Room)) (fun a U => a = #[(.ref a1), (.ref a1)] ∧ Z.Warmed39 U.vm ∧ U.heap = h0) (fun _ _ _ _ _ => True) (fun _ U o U' => ∃ v L, o = .returned v ∧ Q_eqsame Z a1 h0 n0 v U'.heap L ∧ FrameEnd U o U' L ({ frames := 0, cells := 0, slots := 0, locals := 0 } : Room).cells ({ frames := 0, cells := 0, slots := 0, locals := 0 } : Room).slots) := by
  refine MetFree.of_bodySF (plainFor_of_name pn_java_lang_String) hisR ?_
  intro p e s m args below meth c s₁ Bd hml0 hP hK
  obtain ⟨rfl, hZ, hh⟩ := hP
  have hx := Bd.exec
  have hby := Bd.bytes
  have hml : c.maxLocals = 3 := hml0
  have hown : s.vm.findClass "java/lang/String" = some m.cls := findClass_of_methodNamed Bd.named
  have hnm := (name_of_methodNamed Bd.named Bd.method).1
  have X0 : Stand p l e ({ frames := 0, cells := 0, slots := 0, locals := 0 } : Room) s m #[(.ref a1), (.ref a1)] below meth c s₁ [] 0 0 := Stand.of_body Bd
  have e0 : s₁.heap = h0 := by rw [← hh, Bd.state]; rfl
  have N0 := Fr.nil n0
  refine go_st (fun t k => castTop (ef_eqsame m a1 a1) k) ?_
  show Go _ _ _ _ (s₁.setTop (mkF m 0 #[rv a1, rv a1, .unset] []))
  refine go_st (fun t k => XS.aloadN X0.here hx rfl (hb hby d2_0) rfl rfl k) ?_
  show Go _ _ _ _ (s₁.setTop (mkF m 1 #[rv a1, rv a1, .unset] [(.ref a1)]))
  refine go_st (fun t k => XS.aloadN X0.here hx rfl (hb hby d2_1) rfl rfl k) ?_
  show Go _ _ _ _ (s₁.setTop (mkF m 2 #[rv a1, rv a1, .unset] [(.ref a1), (.ref a1)]))
  refine go_st (fun t k => Jvm.RoadKit.acmp (g := (mkF m 2 #[rv a1, rv a1, .unset] [(.ref a1), (.ref a1)])) X0 hx rfl rfl rfl (pc0 := 2) (pc' := 5) (same := true) rfl (hb hby d2_2) rfl (decide_eq_true rfl) (by decide) (by decide) k) ?_
  show Go _ _ _ _ (s₁.setTop (mkF m 5 #[rv a1, rv a1, .unset] []))
  refine go_st (fun t k => XS.iconst X0.here hx rfl (hb hby d2_5) k) ?_
  show Go _ _ _ _ (s₁.setTop (mkF m 6 #[rv a1, rv a1, .unset] [(.int 1)]))
  obtain ⟨fs, hr, hrun, hended, hW, hsame⟩ := X0.leave (v := some (.int 1)) (fun h => by rw [Bd.returns] at h; cases h)
  refine ⟨_, _, ?_, hrun, hended, _, _, rfl, ?_, ⟨_, rfl⟩, hW, hsame.mono (by decide) (by decide)⟩
  · exact retN X0 hx (t := .boolean) Bd.returns (by simp) (hb hby d2_6) hr
  · show Q_eqsame _ _ _ _ _ s₁.heap _
    rw [e0]
    exact ⟨rfl, N0, rfl⟩
def Q_kindOf (Z : State) (pk : Int32) (g0 : Addr) (g1 : Addr) (g2 : Addr) (g3 : Addr) (g4 : Addr) (h0 : Heap) (n0 : Nat) (vR : Option Value) (h : Heap) (L : List Loc) : Prop := ∃ (g : Addr), vR = some (.ref g) ∧ Fr n0 L ∧ h = h0
theorem ef_kindOf (m : MethodId) (x0 : Int32) : entryFrame m #[(.int x0)] 2 = mkF m 0 #[.val (.int x0), .unset] [] := by first | (simp [entryFrame, mkF, argsToLocals, Value.category]; done) | rfl
set_option maxRecDepth 65536 in
set_option maxHeartbeats 40000000 in
theorem rm_kindOf (l : Launch) (Z : State) (a0 : Array Value) (hw : ∀ d ∈ tables_1, d.before a0 Z = true) (ws : List Jvm.Cond) (pk : Int32) (g0 : Addr) (g1 : Addr) (g2 : Addr) (g3 : Addr) (g4 : Addr) (h0 : Heap) (n0 : Nat) (Z0 : n0 ≤ h0.size) (GS0 : Sta Z Z.heap "com/example/tuplet/tuplet/Commands$Kind" "FLAG" "Lcom/example/tuplet/tuplet/Commands$Kind;" (.ref g0)) (GS1 : Sta Z Z.heap "com/example/tuplet/tuplet/Commands$Kind" "TEXT" "Lcom/example/tuplet/tuplet/Commands$Kind;" (.ref g1)) (GS2 : Sta Z Z.heap "com/example/tuplet/tuplet/Commands$Kind" "INTEGER" "Lcom/example/tuplet/tuplet/Commands$Kind;" (.ref g2)) (GS3 : Sta Z Z.heap "com/example/tuplet/tuplet/Commands$Kind" "PATH" "Lcom/example/tuplet/tuplet/Commands$Kind;" (.ref g3)) (GS4 : Sta Z Z.heap "com/example/tuplet/tuplet/Commands$Kind" "LIST" "Lcom/example/tuplet/tuplet/Commands$Kind;" (.ref g4)) (O0 : Old Z n0 h0) :
    MetFree l (⟨"com/example/tuplet/tuplet/OptionOfPinLaw", "kindOf", "(I)Lcom/example/tuplet/tuplet/Commands$Kind;"⟩ : MethodName) (head1 (Jvm.Cond.code (⟨"com/example/tuplet/tuplet/OptionOfPinLaw", "kindOf", "(I)Lcom/example/tuplet/tuplet/Commands$Kind;"⟩ : MethodName) method_2_code 2 (some (.object "com/example/tuplet/tuplet/Commands$Kind")) :: ws) ({ frames := 0, cells := 0, slots := 0, locals := 0 } : Room)) (fun a U => a = #[(.int pk)] ∧ Z.Warmed39 U.vm ∧ U.heap = h0) (fun _ _ _ _ _ => True) (fun _ U o U' => ∃ v L, o = .returned v ∧ Q_kindOf Z pk g0 g1 g2 g3 g4 h0 n0 v U'.heap L ∧ FrameEnd U o U' L ({ frames := 0, cells := 0, slots := 0, locals := 0 } : Room).cells ({ frames := 0, cells := 0, slots := 0, locals := 0 } : Room).slots) := by
  refine MetFree.of_bodySF (plainFor_of_name pn_com_example_tuplet_tuplet_OptionOfPinLaw) hisR ?_
  intro p e s m args below meth c s₁ Bd hml0 hP hK
  obtain ⟨rfl, hZ, hh⟩ := hP
  have hx := Bd.exec
  have hby := Bd.bytes
  have hml : c.maxLocals = 2 := hml0
  have hown : s.vm.findClass "com/example/tuplet/tuplet/OptionOfPinLaw" = some m.cls := findClass_of_methodNamed Bd.named
  have hnm := (name_of_methodNamed Bd.named Bd.method).1
  have X0 : Stand p l e ({ frames := 0, cells := 0, slots := 0, locals := 0 } : Room) s m #[(.int pk)] below meth c s₁ [] 0 0 := Stand.of_body Bd
  have e0 : s₁.heap = h0 := by rw [← hh, Bd.state]; rfl
  have N0 := Fr.nil n0
  refine go_st (fun t k => castTop (ef_kindOf m pk) k) ?_
  show Go _ _ _ _ (s₁.setTop (mkF m 0 #[iv pk, .unset] []))
  refine go_st (fun t k => XS.iloadN X0.here hx rfl (hb hby d3_0) rfl k) ?_
  show Go _ _ _ _ (s₁.setTop (mkF m 1 #[iv pk, .unset] [(.int pk)]))
  refine go_st (fun t k => X0.ldcInt hx hown (mvT hZ (w4 hw)) (g := (mkF m 1 #[iv pk, .unset] [(.int pk)])) rfl (hb hby d3_1) t k) ?_
  show Go _ _ _ _ (s₁.setTop (mkF m 3 #[iv pk, .unset] [(.int 2147483647), (.int pk)]))
  refine go_st (fun t k => XS.iand X0.here hx rfl (hb hby d3_3) rfl k) ?_
  show Go _ _ _ _ (s₁.setTop (mkF m 4 #[iv pk, .unset] [(.int (pk &&& (2147483647 : Int32)))]))
  refine go_st (fun t k => XS.iconst X0.here hx rfl (hb hby d3_4) k) ?_
  show Go _ _ _ _ (s₁.setTop (mkF m 5 #[iv pk, .unset] [(.int 5), (.int (pk &&& (2147483647 : Int32)))]))
  refine go_st (fun t k => iremM X0 hx rfl (hb hby d3_5) rfl (by decide) k) ?_
  show Go _ _ _ _ (s₁.setTop (mkF m 6 #[iv pk, .unset] [(.int ((pk &&& (2147483647 : Int32)) % (5 : Int32)))]))
  refine go_st (fun t k => XS.istoreN X0.here hx rfl (hb hby d3_6) rfl (l' := #[iv pk, iv ((pk &&& (2147483647 : Int32)) % (5 : Int32))]) rfl k) ?_
  show Go _ _ _ _ (s₁.setTop (mkF m 7 #[iv pk, iv ((pk &&& (2147483647 : Int32)) % (5 : Int32))] []))
  refine go_st (fun t k => XS.iloadN X0.here hx rfl (hb hby d3_7) rfl k) ?_
  show Go _ _ _ _ (s₁.setTop (mkF m 8 #[iv pk, iv ((pk &&& (2147483647 : Int32)) % (5 : Int32))] [(.int ((pk &&& (2147483647 : Int32)) % (5 : Int32)))]))
  by_cases hc1 : ((pk &&& (2147483647 : Int32)) % (5 : Int32)) = (0 : Int32)
  · skip
    refine go_st (fun t k => XS.ifNo X0.here hx rfl (hb hby d3_8) rfl ((if0 _ _).trans (teq (hc1 : ((pk &&& (2147483647 : Int32)) % (5 : Int32)) = (0 : Int32))).2) k) ?_
    show Go _ _ _ _ (s₁.setTop (mkF m 11 #[iv pk, iv ((pk &&& (2147483647 : Int32)) % (5 : Int32))] []))
    obtain ⟨T2, X2, e2, st2⟩ := getS2 X0 hx hZ hown (host := "") (Or.inl (w5 hw)) Via.refl e0 (Sta.ext O0.2 GS0) (g := (mkF m 11 #[iv pk, iv ((pk &&& (2147483647 : Int32)) % (5 : Int32))] [])) rfl (hb hby d3_11)
    refine go_st (fun t k => st2 t k) ?_
    show Go _ _ _ _ (T2.setTop (mkF m 14 #[iv pk, iv ((pk &&& (2147483647 : Int32)) % (5 : Int32))] [(.ref g0)]))
    obtain ⟨fs, hr, hrun, hended, hW, hsame⟩ := X2.leave (v := some (.ref g0)) (fun h => by rw [Bd.returns] at h; cases h)
    refine ⟨_, _, ?_, hrun, hended, _, _, rfl, ?_, ⟨_, rfl⟩, hW, hsame.mono (by decide) (by decide)⟩
    · exact retOut X2 hx Bd.returns rfl (Or.inr (Or.inr (Or.inr (Or.inr ⟨rfl, rfl, rfl⟩)))) (hb hby d3_14) hr
    · show Q_kindOf _ _ _ _ _ _ _ _ _ _ T2.heap _
      rw [e2]
      exact ⟨g0, rfl, N0, rfl⟩
  · skip
    refine go_st (fun t k => XS.ifYes X0.here hx rfl (pc0 := 8) (pc' := 15) rfl (hb hby d3_8) rfl ((if0 _ _).trans (feq (hc1 : ¬ (((pk &&& (2147483647 : Int32)) % (5 : Int32)) = (0 : Int32)))).2) (by decide) (by decide) k) ?_
    show Go _ _ _ _ (s₁.setTop (mkF m 15 #[iv pk, iv ((pk &&& (2147483647 : Int32)) % (5 : Int32))] []))
    refine go_st (fun t k => XS.iloadN X0.here hx rfl (hb hby d3_15) rfl k) ?_
    show Go _ _ _ _ (s₁.setTop (mkF m 16 #[iv pk, iv ((pk &&& (2147483647 : Int32)) % (5 : Int32))] [(.int ((pk &&& (2147483647 : Int32)) % (5 : Int32)))]))
    refine go_st (fun t k => XS.iconst X0.here hx rfl (hb hby d3_16) k) ?_
    show Go _ _ _ _ (s₁.setTop (mkF m 17 #[iv pk, iv ((pk &&& (2147483647 : Int32)) % (5 : Int32))] [(.int 1), (.int ((pk &&& (2147483647 : Int32)) % (5 : Int32)))]))
    by_cases hc3 : ((pk &&& (2147483647 : Int32)) % (5 : Int32)) = (1 : Int32)
    · skip
      refine go_st (fun t k => XS.icmpNo X0.here hx rfl (hb hby d3_17) rfl (teq (hc3 : ((pk &&& (2147483647 : Int32)) % (5 : Int32)) = (1 : Int32))).2 k) ?_
      show Go _ _ _ _ (s₁.setTop (mkF m 20 #[iv pk, iv ((pk &&& (2147483647 : Int32)) % (5 : Int32))] []))
      obtain ⟨T4, X4, e4, st4⟩ := getS2 X0 hx hZ hown (host := "") (Or.inl (w264 hw)) Via.refl e0 (Sta.ext O0.2 GS1) (g := (mkF m 20 #[iv pk, iv ((pk &&& (2147483647 : Int32)) % (5 : Int32))] [])) rfl (hb hby d3_20)
      refine go_st (fun t k => st4 t k) ?_
      show Go _ _ _ _ (T4.setTop (mkF m 23 #[iv pk, iv ((pk &&& (2147483647 : Int32)) % (5 : Int32))] [(.ref g1)]))
      obtain ⟨fs, hr, hrun, hended, hW, hsame⟩ := X4.leave (v := some (.ref g1)) (fun h => by rw [Bd.returns] at h; cases h)
      refine ⟨_, _, ?_, hrun, hended, _, _, rfl, ?_, ⟨_, rfl⟩, hW, hsame.mono (by decide) (by decide)⟩
      · exact retOut X4 hx Bd.returns rfl (Or.inr (Or.inr (Or.inr (Or.inr ⟨rfl, rfl, rfl⟩)))) (hb hby d3_23) hr
      · show Q_kindOf _ _ _ _ _ _ _ _ _ _ T4.heap _
        rw [e4]
        exact ⟨g1, rfl, N0, rfl⟩
    · skip
      refine go_st (fun t k => XS.icmpYes X0.here hx rfl (pc0 := 17) (pc' := 24) rfl (hb hby d3_17) rfl (feq (hc3 : ¬ (((pk &&& (2147483647 : Int32)) % (5 : Int32)) = (1 : Int32)))).2 (by decide) (by decide) k) ?_
      show Go _ _ _ _ (s₁.setTop (mkF m 24 #[iv pk, iv ((pk &&& (2147483647 : Int32)) % (5 : Int32))] []))
      refine go_st (fun t k => XS.iloadN X0.here hx rfl (hb hby d3_24) rfl k) ?_
      show Go _ _ _ _ (s₁.setTop (mkF m 25 #[iv pk, iv ((pk &&& (2147483647 : Int32)) % (5 : Int32))] [(.int ((pk &&& (2147483647 : Int32)) % (5 : Int32)))]))
      refine go_st (fun t k => XS.iconst X0.here hx rfl (hb hby d3_25) k) ?_
      show Go _ _ _ _ (s₁.setTop (mkF m 26 #[iv pk, iv ((pk &&& (2147483647 : Int32)) % (5 : Int32))] [(.int 2), (.int ((pk &&& (2147483647 : Int32)) % (5 : Int32)))]))
      by_cases hc5 : ((pk &&& (2147483647 : Int32)) % (5 : Int32)) = (2 : Int32)
      · skip
        refine go_st (fun t k => XS.icmpNo X0.here hx rfl (hb hby d3_26) rfl (teq (hc5 : ((pk &&& (2147483647 : Int32)) % (5 : Int32)) = (2 : Int32))).2 k) ?_
        show Go _ _ _ _ (s₁.setTop (mkF m 29 #[iv pk, iv ((pk &&& (2147483647 : Int32)) % (5 : Int32))] []))
        obtain ⟨T6, X6, e6, st6⟩ := getS2 X0 hx hZ hown (host := "") (Or.inl (w113 hw)) Via.refl e0 (Sta.ext O0.2 GS2) (g := (mkF m 29 #[iv pk, iv ((pk &&& (2147483647 : Int32)) % (5 : Int32))] [])) rfl (hb hby d3_29)
        refine go_st (fun t k => st6 t k) ?_
        show Go _ _ _ _ (T6.setTop (mkF m 32 #[iv pk, iv ((pk &&& (2147483647 : Int32)) % (5 : Int32))] [(.ref g2)]))
        obtain ⟨fs, hr, hrun, hended, hW, hsame⟩ := X6.leave (v := some (.ref g2)) (fun h => by rw [Bd.returns] at h; cases h)
        refine ⟨_, _, ?_, hrun, hended, _, _, rfl, ?_, ⟨_, rfl⟩, hW, hsame.mono (by decide) (by decide)⟩
        · exact retOut X6 hx Bd.returns rfl (Or.inr (Or.inr (Or.inr (Or.inr ⟨rfl, rfl, rfl⟩)))) (hb hby d3_32) hr
        · show Q_kindOf _ _ _ _ _ _ _ _ _ _ T6.heap _
          rw [e6]
          exact ⟨g2, rfl, N0, rfl⟩
      · skip
        refine go_st (fun t k => XS.icmpYes X0.here hx rfl (pc0 := 26) (pc' := 33) rfl (hb hby d3_26) rfl (feq (hc5 : ¬ (((pk &&& (2147483647 : Int32)) % (5 : Int32)) = (2 : Int32)))).2 (by decide) (by decide) k) ?_
        show Go _ _ _ _ (s₁.setTop (mkF m 33 #[iv pk, iv ((pk &&& (2147483647 : Int32)) % (5 : Int32))] []))
        refine go_st (fun t k => XS.iloadN X0.here hx rfl (hb hby d3_33) rfl k) ?_
        show Go _ _ _ _ (s₁.setTop (mkF m 34 #[iv pk, iv ((pk &&& (2147483647 : Int32)) % (5 : Int32))] [(.int ((pk &&& (2147483647 : Int32)) % (5 : Int32)))]))
        refine go_st (fun t k => XS.iconst X0.here hx rfl (hb hby d3_34) k) ?_
        show Go _ _ _ _ (s₁.setTop (mkF m 35 #[iv pk, iv ((pk &&& (2147483647 : Int32)) % (5 : Int32))] [(.int 3), (.int ((pk &&& (2147483647 : Int32)) % (5 : Int32)))]))
        by_cases hc7 : ((pk &&& (2147483647 : Int32)) % (5 : Int32)) = (3 : Int32)
        · skip
          refine go_st (fun t k => XS.icmpNo X0.here hx rfl (hb hby d3_35) rfl (teq (hc7 : ((pk &&& (2147483647 : Int32)) % (5 : Int32)) = (3 : Int32))).2 k) ?_
          show Go _ _ _ _ (s₁.setTop (mkF m 38 #[iv pk, iv ((pk &&& (2147483647 : Int32)) % (5 : Int32))] []))
          obtain ⟨T8, X8, e8, st8⟩ := getS2 X0 hx hZ hown (host := "") (Or.inl (w266 hw)) Via.refl e0 (Sta.ext O0.2 GS3) (g := (mkF m 38 #[iv pk, iv ((pk &&& (2147483647 : Int32)) % (5 : Int32))] [])) rfl (hb hby d3_38)
          refine go_st (fun t k => st8 t k) ?_
          show Go _ _ _ _ (T8.setTop (mkF m 41 #[iv pk, iv ((pk &&& (2147483647 : Int32)) % (5 : Int32))] [(.ref g3)]))
          obtain ⟨fs, hr, hrun, hended, hW, hsame⟩ := X8.leave (v := some (.ref g3)) (fun h => by rw [Bd.returns] at h; cases h)
          refine ⟨_, _, ?_, hrun, hended, _, _, rfl, ?_, ⟨_, rfl⟩, hW, hsame.mono (by decide) (by decide)⟩
          · exact retOut X8 hx Bd.returns rfl (Or.inr (Or.inr (Or.inr (Or.inr ⟨rfl, rfl, rfl⟩)))) (hb hby d3_41) hr
          · show Q_kindOf _ _ _ _ _ _ _ _ _ _ T8.heap _
            rw [e8]
            exact ⟨g3, rfl, N0, rfl⟩
        · skip
          refine go_st (fun t k => XS.icmpYes X0.here hx rfl (pc0 := 35) (pc' := 42) rfl (hb hby d3_35) rfl (feq (hc7 : ¬ (((pk &&& (2147483647 : Int32)) % (5 : Int32)) = (3 : Int32)))).2 (by decide) (by decide) k) ?_
          show Go _ _ _ _ (s₁.setTop (mkF m 42 #[iv pk, iv ((pk &&& (2147483647 : Int32)) % (5 : Int32))] []))
          obtain ⟨T9, X9, e9, st9⟩ := getS2 X0 hx hZ hown (host := "") (Or.inl (w115 hw)) Via.refl e0 (Sta.ext O0.2 GS4) (g := (mkF m 42 #[iv pk, iv ((pk &&& (2147483647 : Int32)) % (5 : Int32))] [])) rfl (hb hby d3_42)
          refine go_st (fun t k => st9 t k) ?_
          show Go _ _ _ _ (T9.setTop (mkF m 45 #[iv pk, iv ((pk &&& (2147483647 : Int32)) % (5 : Int32))] [(.ref g4)]))
          obtain ⟨fs, hr, hrun, hended, hW, hsame⟩ := X9.leave (v := some (.ref g4)) (fun h => by rw [Bd.returns] at h; cases h)
          refine ⟨_, _, ?_, hrun, hended, _, _, rfl, ?_, ⟨_, rfl⟩, hW, hsame.mono (by decide) (by decide)⟩
          · exact retOut X9 hx Bd.returns rfl (Or.inr (Or.inr (Or.inr (Or.inr ⟨rfl, rfl, rfl⟩)))) (hb hby d3_45) hr
          · show Q_kindOf _ _ _ _ _ _ _ _ _ _ T9.heap _
            rw [e9]
            exact ⟨g4, rfl, N0, rfl⟩
def Q_get_name (Z : State) (a1 : Addr) (v0 : Value) (h0 : Heap) (n0 : Nat) (vR : Option Value) (h : Heap) (L : List Loc) : Prop := vR = some v0 ∧ Fr n0 L ∧ h = h0
theorem ef_get_name (m : MethodId) (x0 : Addr) : entryFrame m #[(.ref x0)] 1 = mkF m 0 #[.val (.ref x0)] [] := by first | (simp [entryFrame, mkF, argsToLocals, Value.category]; done) | rfl
set_option maxRecDepth 65536 in
set_option maxHeartbeats 40000000 in
theorem rm_get_name (l : Launch) (Z : State) (a0 : Array Value) (hw : ∀ d ∈ tables_1, d.before a0 Z = true) (ws : List Jvm.Cond) (a1 : Addr) (v0 : Value) (h0 : Heap) (n0 : Nat) (Z0 : n0 ≤ h0.size) (H0 : Fld Z h0 a1 "com/example/tuplet/tuplet/Commands$Option" "name" "Ljava/lang/String;" v0) (hv0 : v0.isRef = true) :
    MetFree l (⟨"com/example/tuplet/tuplet/Commands$Option", "name", "()Ljava/lang/String;"⟩ : MethodName) (head1 (Jvm.Cond.code (⟨"com/example/tuplet/tuplet/Commands$Option", "name", "()Ljava/lang/String;"⟩ : MethodName) prog_6_method_10_code 1 (some (.object "java/lang/String")) :: ws) ({ frames := 0, cells := 0, slots := 0, locals := 0 } : Room)) (fun a U => a = #[(.ref a1)] ∧ Z.Warmed39 U.vm ∧ U.heap = h0) (fun _ _ _ _ _ => True) (fun _ U o U' => ∃ v L, o = .returned v ∧ Q_get_name Z a1 v0 h0 n0 v U'.heap L ∧ FrameEnd U o U' L ({ frames := 0, cells := 0, slots := 0, locals := 0 } : Room).cells ({ frames := 0, cells := 0, slots := 0, locals := 0 } : Room).slots) := by
  refine MetFree.of_bodySF (plainFor_of_name pn_com_example_tuplet_tuplet_Commands_Option) hisR ?_
  intro p e s m args below meth c s₁ Bd hml0 hP hK
  obtain ⟨rfl, hZ, hh⟩ := hP
  have hx := Bd.exec
  have hby := Bd.bytes
  have hml : c.maxLocals = 1 := hml0
  have hown : s.vm.findClass "com/example/tuplet/tuplet/Commands$Option" = some m.cls := findClass_of_methodNamed Bd.named
  have hnm := (name_of_methodNamed Bd.named Bd.method).1
  have X0 : Stand p l e ({ frames := 0, cells := 0, slots := 0, locals := 0 } : Room) s m #[(.ref a1)] below meth c s₁ [] 0 0 := Stand.of_body Bd
  have e0 : s₁.heap = h0 := by rw [← hh, Bd.state]; rfl
  have N0 := Fr.nil n0
  refine go_st (fun t k => castTop (ef_get_name m a1) k) ?_
  show Go _ _ _ _ (s₁.setTop (mkF m 0 #[rv a1] []))
  refine go_st (fun t k => XS.aloadN X0.here hx rfl (hb hby d4_0) rfl rfl k) ?_
  show Go _ _ _ _ (s₁.setTop (mkF m 1 #[rv a1] [(.ref a1)]))
  obtain ⟨T1, X1, e1, st1⟩ := getF X0 hx hZ hown (host := "") (Or.inl (w56 hw)) Via.refl e0 H0 (g := (mkF m 1 #[rv a1] [(.ref a1)])) rfl rfl (hb hby d4_1)
  refine go_st (fun t k => st1 t k) ?_
  show Go _ _ _ _ (T1.setTop (mkF m 4 #[rv a1] [v0]))
  obtain ⟨fs, hr, hrun, hended, hW, hsame⟩ := X1.leave (v := some v0) (fun h => by rw [Bd.returns] at h; cases h)
  refine ⟨_, _, ?_, hrun, hended, _, _, rfl, ?_, ⟨_, rfl⟩, hW, hsame.mono (by decide) (by decide)⟩
  · exact retOut X1 hx Bd.returns (ref_narrow _ hv0) (Or.inr (Or.inr (Or.inr (Or.inr ⟨rfl, rfl, hv0⟩)))) (hb hby d4_4) hr
  · show Q_get_name _ _ _ _ _ _ T1.heap _
    rw [e1]
    exact ⟨rfl, N0, rfl⟩
def Q_get_kind (Z : State) (a1 : Addr) (v1 : Value) (h0 : Heap) (n0 : Nat) (vR : Option Value) (h : Heap) (L : List Loc) : Prop := vR = some v1 ∧ Fr n0 L ∧ h = h0
theorem ef_get_kind (m : MethodId) (x0 : Addr) : entryFrame m #[(.ref x0)] 1 = mkF m 0 #[.val (.ref x0)] [] := by first | (simp [entryFrame, mkF, argsToLocals, Value.category]; done) | rfl
set_option maxRecDepth 65536 in
set_option maxHeartbeats 40000000 in
theorem rm_get_kind (l : Launch) (Z : State) (a0 : Array Value) (hw : ∀ d ∈ tables_1, d.before a0 Z = true) (ws : List Jvm.Cond) (a1 : Addr) (v1 : Value) (h0 : Heap) (n0 : Nat) (Z0 : n0 ≤ h0.size) (H0 : Fld Z h0 a1 "com/example/tuplet/tuplet/Commands$Option" "kind" "Lcom/example/tuplet/tuplet/Commands$Kind;" v1) (hv1 : v1.isRef = true) :
    MetFree l (⟨"com/example/tuplet/tuplet/Commands$Option", "kind", "()Lcom/example/tuplet/tuplet/Commands$Kind;"⟩ : MethodName) (head1 (Jvm.Cond.code (⟨"com/example/tuplet/tuplet/Commands$Option", "kind", "()Lcom/example/tuplet/tuplet/Commands$Kind;"⟩ : MethodName) prog_6_method_11_code 1 (some (.object "com/example/tuplet/tuplet/Commands$Kind")) :: ws) ({ frames := 0, cells := 0, slots := 0, locals := 0 } : Room)) (fun a U => a = #[(.ref a1)] ∧ Z.Warmed39 U.vm ∧ U.heap = h0) (fun _ _ _ _ _ => True) (fun _ U o U' => ∃ v L, o = .returned v ∧ Q_get_kind Z a1 v1 h0 n0 v U'.heap L ∧ FrameEnd U o U' L ({ frames := 0, cells := 0, slots := 0, locals := 0 } : Room).cells ({ frames := 0, cells := 0, slots := 0, locals := 0 } : Room).slots) := by
  refine MetFree.of_bodySF (plainFor_of_name pn_com_example_tuplet_tuplet_Commands_Option) hisR ?_
  intro p e s m args below meth c s₁ Bd hml0 hP hK
  obtain ⟨rfl, hZ, hh⟩ := hP
  have hx := Bd.exec
  have hby := Bd.bytes
  have hml : c.maxLocals = 1 := hml0
  have hown : s.vm.findClass "com/example/tuplet/tuplet/Commands$Option" = some m.cls := findClass_of_methodNamed Bd.named
  have hnm := (name_of_methodNamed Bd.named Bd.method).1
  have X0 : Stand p l e ({ frames := 0, cells := 0, slots := 0, locals := 0 } : Room) s m #[(.ref a1)] below meth c s₁ [] 0 0 := Stand.of_body Bd
  have e0 : s₁.heap = h0 := by rw [← hh, Bd.state]; rfl
  have N0 := Fr.nil n0
  refine go_st (fun t k => castTop (ef_get_kind m a1) k) ?_
  show Go _ _ _ _ (s₁.setTop (mkF m 0 #[rv a1] []))
  refine go_st (fun t k => XS.aloadN X0.here hx rfl (hb hby d5_0) rfl rfl k) ?_
  show Go _ _ _ _ (s₁.setTop (mkF m 1 #[rv a1] [(.ref a1)]))
  obtain ⟨T1, X1, e1, st1⟩ := getF X0 hx hZ hown (host := "") (Or.inl (w58 hw)) Via.refl e0 H0 (g := (mkF m 1 #[rv a1] [(.ref a1)])) rfl rfl (hb hby d5_1)
  refine go_st (fun t k => st1 t k) ?_
  show Go _ _ _ _ (T1.setTop (mkF m 4 #[rv a1] [v1]))
  obtain ⟨fs, hr, hrun, hended, hW, hsame⟩ := X1.leave (v := some v1) (fun h => by rw [Bd.returns] at h; cases h)
  refine ⟨_, _, ?_, hrun, hended, _, _, rfl, ?_, ⟨_, rfl⟩, hW, hsame.mono (by decide) (by decide)⟩
  · exact retOut X1 hx Bd.returns (ref_narrow _ hv1) (Or.inr (Or.inr (Or.inr (Or.inr ⟨rfl, rfl, hv1⟩)))) (hb hby d5_4) hr
  · show Q_get_kind _ _ _ _ _ _ T1.heap _
    rw [e1]
    exact ⟨rfl, N0, rfl⟩
def Q_get_label (Z : State) (a1 : Addr) (v2 : Value) (h0 : Heap) (n0 : Nat) (vR : Option Value) (h : Heap) (L : List Loc) : Prop := vR = some v2 ∧ Fr n0 L ∧ h = h0
theorem ef_get_label (m : MethodId) (x0 : Addr) : entryFrame m #[(.ref x0)] 1 = mkF m 0 #[.val (.ref x0)] [] := by first | (simp [entryFrame, mkF, argsToLocals, Value.category]; done) | rfl
set_option maxRecDepth 65536 in
set_option maxHeartbeats 40000000 in
theorem rm_get_label (l : Launch) (Z : State) (a0 : Array Value) (hw : ∀ d ∈ tables_1, d.before a0 Z = true) (ws : List Jvm.Cond) (a1 : Addr) (v2 : Value) (h0 : Heap) (n0 : Nat) (Z0 : n0 ≤ h0.size) (H0 : Fld Z h0 a1 "com/example/tuplet/tuplet/Commands$Option" "label" "Ljava/lang/String;" v2) (hv2 : v2.isRef = true) :
    MetFree l (⟨"com/example/tuplet/tuplet/Commands$Option", "label", "()Ljava/lang/String;"⟩ : MethodName) (head1 (Jvm.Cond.code (⟨"com/example/tuplet/tuplet/Commands$Option", "label", "()Ljava/lang/String;"⟩ : MethodName) prog_6_method_12_code 1 (some (.object "java/lang/String")) :: ws) ({ frames := 0, cells := 0, slots := 0, locals := 0 } : Room)) (fun a U => a = #[(.ref a1)] ∧ Z.Warmed39 U.vm ∧ U.heap = h0) (fun _ _ _ _ _ => True) (fun _ U o U' => ∃ v L, o = .returned v ∧ Q_get_label Z a1 v2 h0 n0 v U'.heap L ∧ FrameEnd U o U' L ({ frames := 0, cells := 0, slots := 0, locals := 0 } : Room).cells ({ frames := 0, cells := 0, slots := 0, locals := 0 } : Room).slots) := by
  refine MetFree.of_bodySF (plainFor_of_name pn_com_example_tuplet_tuplet_Commands_Option) hisR ?_
  intro p e s m args below meth c s₁ Bd hml0 hP hK
  obtain ⟨rfl, hZ, hh⟩ := hP
  have hx := Bd.exec
  have hby := Bd.bytes
  have hml : c.maxLocals = 1 := hml0
  have hown : s.vm.findClass "com/example/tuplet/tuplet/Commands$Option" = some m.cls := findClass_of_methodNamed Bd.named
  have hnm := (name_of_methodNamed Bd.named Bd.method).1
  have X0 : Stand p l e ({ frames := 0, cells := 0, slots := 0, locals := 0 } : Room) s m #[(.ref a1)] below meth c s₁ [] 0 0 := Stand.of_body Bd
  have e0 : s₁.heap = h0 := by rw [← hh, Bd.state]; rfl
  have N0 := Fr.nil n0
  refine go_st (fun t k => castTop (ef_get_label m a1) k) ?_
  show Go _ _ _ _ (s₁.setTop (mkF m 0 #[rv a1] []))
  refine go_st (fun t k => XS.aloadN X0.here hx rfl (hb hby d6_0) rfl rfl k) ?_
  show Go _ _ _ _ (s₁.setTop (mkF m 1 #[rv a1] [(.ref a1)]))
  obtain ⟨T1, X1, e1, st1⟩ := getF X0 hx hZ hown (host := "") (Or.inl (w60 hw)) Via.refl e0 H0 (g := (mkF m 1 #[rv a1] [(.ref a1)])) rfl rfl (hb hby d6_1)
  refine go_st (fun t k => st1 t k) ?_
  show Go _ _ _ _ (T1.setTop (mkF m 4 #[rv a1] [v2]))
  obtain ⟨fs, hr, hrun, hended, hW, hsame⟩ := X1.leave (v := some v2) (fun h => by rw [Bd.returns] at h; cases h)
  refine ⟨_, _, ?_, hrun, hended, _, _, rfl, ?_, ⟨_, rfl⟩, hW, hsame.mono (by decide) (by decide)⟩
  · exact retOut X1 hx Bd.returns (ref_narrow _ hv2) (Or.inr (Or.inr (Or.inr (Or.inr ⟨rfl, rfl, hv2⟩)))) (hb hby d6_4) hr
  · show Q_get_label _ _ _ _ _ _ T1.heap _
    rw [e1]
    exact ⟨rfl, N0, rfl⟩
def Q_get_help (Z : State) (a1 : Addr) (v3 : Value) (h0 : Heap) (n0 : Nat) (vR : Option Value) (h : Heap) (L : List Loc) : Prop := vR = some v3 ∧ Fr n0 L ∧ h = h0
theorem ef_get_help (m : MethodId) (x0 : Addr) : entryFrame m #[(.ref x0)] 1 = mkF m 0 #[.val (.ref x0)] [] := by first | (simp [entryFrame, mkF, argsToLocals, Value.category]; done) | rfl
set_option maxRecDepth 65536 in
set_option maxHeartbeats 40000000 in
theorem rm_get_help (l : Launch) (Z : State) (a0 : Array Value) (hw : ∀ d ∈ tables_1, d.before a0 Z = true) (ws : List Jvm.Cond) (a1 : Addr) (v3 : Value) (h0 : Heap) (n0 : Nat) (Z0 : n0 ≤ h0.size) (H0 : Fld Z h0 a1 "com/example/tuplet/tuplet/Commands$Option" "help" "Ljava/lang/String;" v3) (hv3 : v3.isRef = true) :
    MetFree l (⟨"com/example/tuplet/tuplet/Commands$Option", "help", "()Ljava/lang/String;"⟩ : MethodName) (head1 (Jvm.Cond.code (⟨"com/example/tuplet/tuplet/Commands$Option", "help", "()Ljava/lang/String;"⟩ : MethodName) prog_6_method_13_code 1 (some (.object "java/lang/String")) :: ws) ({ frames := 0, cells := 0, slots := 0, locals := 0 } : Room)) (fun a U => a = #[(.ref a1)] ∧ Z.Warmed39 U.vm ∧ U.heap = h0) (fun _ _ _ _ _ => True) (fun _ U o U' => ∃ v L, o = .returned v ∧ Q_get_help Z a1 v3 h0 n0 v U'.heap L ∧ FrameEnd U o U' L ({ frames := 0, cells := 0, slots := 0, locals := 0 } : Room).cells ({ frames := 0, cells := 0, slots := 0, locals := 0 } : Room).slots) := by
  refine MetFree.of_bodySF (plainFor_of_name pn_com_example_tuplet_tuplet_Commands_Option) hisR ?_
  intro p e s m args below meth c s₁ Bd hml0 hP hK
  obtain ⟨rfl, hZ, hh⟩ := hP
  have hx := Bd.exec
  have hby := Bd.bytes
  have hml : c.maxLocals = 1 := hml0
  have hown : s.vm.findClass "com/example/tuplet/tuplet/Commands$Option" = some m.cls := findClass_of_methodNamed Bd.named
  have hnm := (name_of_methodNamed Bd.named Bd.method).1
  have X0 : Stand p l e ({ frames := 0, cells := 0, slots := 0, locals := 0 } : Room) s m #[(.ref a1)] below meth c s₁ [] 0 0 := Stand.of_body Bd
  have e0 : s₁.heap = h0 := by rw [← hh, Bd.state]; rfl
  have N0 := Fr.nil n0
  refine go_st (fun t k => castTop (ef_get_help m a1) k) ?_
  show Go _ _ _ _ (s₁.setTop (mkF m 0 #[rv a1] []))
  refine go_st (fun t k => XS.aloadN X0.here hx rfl (hb hby d7_0) rfl rfl k) ?_
  show Go _ _ _ _ (s₁.setTop (mkF m 1 #[rv a1] [(.ref a1)]))
  obtain ⟨T1, X1, e1, st1⟩ := getF X0 hx hZ hown (host := "") (Or.inl (w62 hw)) Via.refl e0 H0 (g := (mkF m 1 #[rv a1] [(.ref a1)])) rfl rfl (hb hby d7_1)
  refine go_st (fun t k => st1 t k) ?_
  show Go _ _ _ _ (T1.setTop (mkF m 4 #[rv a1] [v3]))
  obtain ⟨fs, hr, hrun, hended, hW, hsame⟩ := X1.leave (v := some v3) (fun h => by rw [Bd.returns] at h; cases h)
  refine ⟨_, _, ?_, hrun, hended, _, _, rfl, ?_, ⟨_, rfl⟩, hW, hsame.mono (by decide) (by decide)⟩
  · exact retOut X1 hx Bd.returns (ref_narrow _ hv3) (Or.inr (Or.inr (Or.inr (Or.inr ⟨rfl, rfl, hv3⟩)))) (hb hby d7_4) hr
  · show Q_get_help _ _ _ _ _ _ T1.heap _
    rw [e1]
    exact ⟨rfl, N0, rfl⟩
def Q_get_byDefault (Z : State) (a1 : Addr) (v5 : Value) (h0 : Heap) (n0 : Nat) (vR : Option Value) (h : Heap) (L : List Loc) : Prop := vR = some v5 ∧ Fr n0 L ∧ h = h0
theorem ef_get_byDefault (m : MethodId) (x0 : Addr) : entryFrame m #[(.ref x0)] 1 = mkF m 0 #[.val (.ref x0)] [] := by first | (simp [entryFrame, mkF, argsToLocals, Value.category]; done) | rfl
set_option maxRecDepth 65536 in
set_option maxHeartbeats 40000000 in
theorem rm_get_byDefault (l : Launch) (Z : State) (a0 : Array Value) (hw : ∀ d ∈ tables_1, d.before a0 Z = true) (ws : List Jvm.Cond) (a1 : Addr) (v5 : Value) (h0 : Heap) (n0 : Nat) (Z0 : n0 ≤ h0.size) (H0 : Fld Z h0 a1 "com/example/tuplet/tuplet/Commands$Option" "byDefault" "Ljava/lang/String;" v5) (hv5 : v5.isRef = true) :
    MetFree l (⟨"com/example/tuplet/tuplet/Commands$Option", "byDefault", "()Ljava/lang/String;"⟩ : MethodName) (head1 (Jvm.Cond.code (⟨"com/example/tuplet/tuplet/Commands$Option", "byDefault", "()Ljava/lang/String;"⟩ : MethodName) prog_6_method_15_code 1 (some (.object "java/lang/String")) :: ws) ({ frames := 0, cells := 0, slots := 0, locals := 0 } : Room)) (fun a U => a = #[(.ref a1)] ∧ Z.Warmed39 U.vm ∧ U.heap = h0) (fun _ _ _ _ _ => True) (fun _ U o U' => ∃ v L, o = .returned v ∧ Q_get_byDefault Z a1 v5 h0 n0 v U'.heap L ∧ FrameEnd U o U' L ({ frames := 0, cells := 0, slots := 0, locals := 0 } : Room).cells ({ frames := 0, cells := 0, slots := 0, locals := 0 } : Room).slots) := by
  refine MetFree.of_bodySF (plainFor_of_name pn_com_example_tuplet_tuplet_Commands_Option) hisR ?_
  intro p e s m args below meth c s₁ Bd hml0 hP hK
  obtain ⟨rfl, hZ, hh⟩ := hP
  have hx := Bd.exec
  have hby := Bd.bytes
  have hml : c.maxLocals = 1 := hml0
  have hown : s.vm.findClass "com/example/tuplet/tuplet/Commands$Option" = some m.cls := findClass_of_methodNamed Bd.named
  have hnm := (name_of_methodNamed Bd.named Bd.method).1
  have X0 : Stand p l e ({ frames := 0, cells := 0, slots := 0, locals := 0 } : Room) s m #[(.ref a1)] below meth c s₁ [] 0 0 := Stand.of_body Bd
  have e0 : s₁.heap = h0 := by rw [← hh, Bd.state]; rfl
  have N0 := Fr.nil n0
  refine go_st (fun t k => castTop (ef_get_byDefault m a1) k) ?_
  show Go _ _ _ _ (s₁.setTop (mkF m 0 #[rv a1] []))
  refine go_st (fun t k => XS.aloadN X0.here hx rfl (hb hby d8_0) rfl rfl k) ?_
  show Go _ _ _ _ (s₁.setTop (mkF m 1 #[rv a1] [(.ref a1)]))
  obtain ⟨T1, X1, e1, st1⟩ := getF X0 hx hZ hown (host := "") (Or.inl (w66 hw)) Via.refl e0 H0 (g := (mkF m 1 #[rv a1] [(.ref a1)])) rfl rfl (hb hby d8_1)
  refine go_st (fun t k => st1 t k) ?_
  show Go _ _ _ _ (T1.setTop (mkF m 4 #[rv a1] [v5]))
  obtain ⟨fs, hr, hrun, hended, hW, hsame⟩ := X1.leave (v := some v5) (fun h => by rw [Bd.returns] at h; cases h)
  refine ⟨_, _, ?_, hrun, hended, _, _, rfl, ?_, ⟨_, rfl⟩, hW, hsame.mono (by decide) (by decide)⟩
  · exact retOut X1 hx Bd.returns (ref_narrow _ hv5) (Or.inr (Or.inr (Or.inr (Or.inr ⟨rfl, rfl, hv5⟩)))) (hb hby d8_4) hr
  · show Q_get_byDefault _ _ _ _ _ _ T1.heap _
    rw [e1]
    exact ⟨rfl, N0, rfl⟩
def Q_get_required0 (Z : State) (a1 : Addr) (h0 : Heap) (n0 : Nat) (vR : Option Value) (h : Heap) (L : List Loc) : Prop := vR = some (.int 0) ∧ Fr n0 L ∧ h = h0
theorem ef_get_required0 (m : MethodId) (x0 : Addr) : entryFrame m #[(.ref x0)] 1 = mkF m 0 #[.val (.ref x0)] [] := by first | (simp [entryFrame, mkF, argsToLocals, Value.category]; done) | rfl
set_option maxRecDepth 65536 in
set_option maxHeartbeats 40000000 in
theorem rm_get_required0 (l : Launch) (Z : State) (a0 : Array Value) (hw : ∀ d ∈ tables_1, d.before a0 Z = true) (ws : List Jvm.Cond) (a1 : Addr) (h0 : Heap) (n0 : Nat) (Z0 : n0 ≤ h0.size) (H0 : Fld Z h0 a1 "com/example/tuplet/tuplet/Commands$Option" "required" "Z" (.int 0)) :
    MetFree l (⟨"com/example/tuplet/tuplet/Commands$Option", "required", "()Z"⟩ : MethodName) (head1 (Jvm.Cond.code (⟨"com/example/tuplet/tuplet/Commands$Option", "required", "()Z"⟩ : MethodName) prog_6_method_14_code 1 (some .boolean) :: ws) ({ frames := 0, cells := 0, slots := 0, locals := 0 } : Room)) (fun a U => a = #[(.ref a1)] ∧ Z.Warmed39 U.vm ∧ U.heap = h0) (fun _ _ _ _ _ => True) (fun _ U o U' => ∃ v L, o = .returned v ∧ Q_get_required0 Z a1 h0 n0 v U'.heap L ∧ FrameEnd U o U' L ({ frames := 0, cells := 0, slots := 0, locals := 0 } : Room).cells ({ frames := 0, cells := 0, slots := 0, locals := 0 } : Room).slots) := by
  refine MetFree.of_bodySF (plainFor_of_name pn_com_example_tuplet_tuplet_Commands_Option) hisR ?_
  intro p e s m args below meth c s₁ Bd hml0 hP hK
  obtain ⟨rfl, hZ, hh⟩ := hP
  have hx := Bd.exec
  have hby := Bd.bytes
  have hml : c.maxLocals = 1 := hml0
  have hown : s.vm.findClass "com/example/tuplet/tuplet/Commands$Option" = some m.cls := findClass_of_methodNamed Bd.named
  have hnm := (name_of_methodNamed Bd.named Bd.method).1
  have X0 : Stand p l e ({ frames := 0, cells := 0, slots := 0, locals := 0 } : Room) s m #[(.ref a1)] below meth c s₁ [] 0 0 := Stand.of_body Bd
  have e0 : s₁.heap = h0 := by rw [← hh, Bd.state]; rfl
  have N0 := Fr.nil n0
  refine go_st (fun t k => castTop (ef_get_required0 m a1) k) ?_
  show Go _ _ _ _ (s₁.setTop (mkF m 0 #[rv a1] []))
  refine go_st (fun t k => XS.aloadN X0.here hx rfl (hb hby d9_0) rfl rfl k) ?_
  show Go _ _ _ _ (s₁.setTop (mkF m 1 #[rv a1] [(.ref a1)]))
  obtain ⟨T1, X1, e1, st1⟩ := getF X0 hx hZ hown (host := "") (Or.inl (w64 hw)) Via.refl e0 H0 (g := (mkF m 1 #[rv a1] [(.ref a1)])) rfl rfl (hb hby d9_1)
  refine go_st (fun t k => st1 t k) ?_
  show Go _ _ _ _ (T1.setTop (mkF m 4 #[rv a1] [(.int 0)]))
  obtain ⟨fs, hr, hrun, hended, hW, hsame⟩ := X1.leave (v := some (.int 0)) (fun h => by rw [Bd.returns] at h; cases h)
  refine ⟨_, _, ?_, hrun, hended, _, _, rfl, ?_, ⟨_, rfl⟩, hW, hsame.mono (by decide) (by decide)⟩
  · exact retN X1 hx (t := .boolean) Bd.returns (by simp) (hb hby d9_4) hr
  · show Q_get_required0 _ _ _ _ _ T1.heap _
    rw [e1]
    exact ⟨rfl, N0, rfl⟩
def Q_of (Z : State) (v0 : Value) (v1 : Value) (v2 : Value) (v3 : Value) (h0 : Heap) (n0 : Nat) (vR : Option Value) (h : Heap) (L : List Loc) : Prop := ∃ (b : Addr), vR = some (.ref b) ∧ Fr n0 L ∧ Keep h0 h [] ∧ n0 ≤ b ∧ h0.size ≤ b ∧ (Exa Z h b "com/example/tuplet/tuplet/Commands$Option") ∧ (Fld Z h b "com/example/tuplet/tuplet/Commands$Option" "name" "Ljava/lang/String;" v0) ∧ (Fld Z h b "com/example/tuplet/tuplet/Commands$Option" "kind" "Lcom/example/tuplet/tuplet/Commands$Kind;" v1) ∧ (Fld Z h b "com/example/tuplet/tuplet/Commands$Option" "label" "Ljava/lang/String;" v2) ∧ (Fld Z h b "com/example/tuplet/tuplet/Commands$Option" "help" "Ljava/lang/String;" v3) ∧ (Fld Z h b "com/example/tuplet/tuplet/Commands$Option" "required" "Z" (.int 0)) ∧ (Fld Z h b "com/example/tuplet/tuplet/Commands$Option" "byDefault" "Ljava/lang/String;" .null)
theorem ef_of (m : MethodId) (x0 : Value) (hx0 : x0.isRef = true) (x1 : Value) (hx1 : x1.isRef = true) (x2 : Value) (hx2 : x2.isRef = true) (x3 : Value) (hx3 : x3.isRef = true) : entryFrame m #[x0, x1, x2, x3] 4 = mkF m 0 #[.val x0, .val x1, .val x2, .val x3] [] := by rcases ref_cases hx0 with rfl | ⟨y0, rfl⟩ <;> rcases ref_cases hx1 with rfl | ⟨y1, rfl⟩ <;> rcases ref_cases hx2 with rfl | ⟨y2, rfl⟩ <;> rcases ref_cases hx3 with rfl | ⟨y3, rfl⟩ <;> simp [entryFrame, mkF, argsToLocals, Value.category]
set_option maxRecDepth 65536 in
set_option maxHeartbeats 40000000 in
theorem rm_of (l : Launch) (Z : State) (a0 : Array Value) (hw : ∀ d ∈ tables_1, d.before a0 Z = true) (ws : List Jvm.Cond) (v0 : Value) (v1 : Value) (v2 : Value) (v3 : Value) (h0 : Heap) (n0 : Nat) (Z0 : n0 ≤ h0.size) (hv0 : v0.isRef = true) (hv1 : v1.isRef = true) (hv2 : v2.isRef = true) (hv3 : v3.isRef = true) :
    MetFree l (⟨"com/example/tuplet/tuplet/Commands$Option", "of", "(Ljava/lang/String;Lcom/example/tuplet/tuplet/Commands$Kind;Ljava/lang/String;Ljava/lang/String;)Lcom/example/tuplet/tuplet/Commands$Option;"⟩ : MethodName) (head1 (Jvm.Cond.code (⟨"com/example/tuplet/tuplet/Commands$Option", "of", "(Ljava/lang/String;Lcom/example/tuplet/tuplet/Commands$Kind;Ljava/lang/String;Ljava/lang/String;)Lcom/example/tuplet/tuplet/Commands$Option;"⟩ : MethodName) prog_6_method_3_code 4 (some (.object "com/example/tuplet/tuplet/Commands$Option")) :: ws) ({ frames := 3, cells := 1, slots := 6, locals := 43 } : Room)) (fun a U => a = #[v0, v1, v2, v3] ∧ Z.Warmed39 U.vm ∧ U.heap = h0) (fun _ _ _ _ _ => True) (fun _ U o U' => ∃ v L, o = .returned v ∧ Q_of Z v0 v1 v2 v3 h0 n0 v U'.heap L ∧ FrameEnd U o U' L ({ frames := 3, cells := 1, slots := 6, locals := 43 } : Room).cells ({ frames := 3, cells := 1, slots := 6, locals := 43 } : Room).slots) := by
  refine MetFree.of_bodySF (plainFor_of_name pn_com_example_tuplet_tuplet_Commands_Option) hisR ?_
  intro p e s m args below meth c s₁ Bd hml0 hP hK
  obtain ⟨rfl, hZ, hh⟩ := hP
  have hx := Bd.exec
  have hby := Bd.bytes
  have hml : c.maxLocals = 4 := hml0
  have hown : s.vm.findClass "com/example/tuplet/tuplet/Commands$Option" = some m.cls := findClass_of_methodNamed Bd.named
  have hnm := (name_of_methodNamed Bd.named Bd.method).1
  have X0 : Stand p l e ({ frames := 3, cells := 1, slots := 6, locals := 43 } : Room) s m #[v0, v1, v2, v3] below meth c s₁ [] 0 0 := Stand.of_body Bd
  have e0 : s₁.heap = h0 := by rw [← hh, Bd.state]; rfl
  have N0 := Fr.nil n0
  refine go_st (fun t k => castTop (ef_of m v0 hv0 v1 hv1 v2 hv2 v3 hv3) k) ?_
  show Go _ _ _ _ (s₁.setTop (mkF m 0 #[.val v0, .val v1, .val v2, .val v3] []))
  obtain ⟨T1, h1, X1, e1, E1, A1, D1, -, st1⟩ := newO X0 hx hZ hown (w45 hw) (w46 hw) (w43 hw) e0 (g := (mkF m 0 #[.val v0, .val v1, .val v2, .val v3] [])) rfl (hb hby d10_0) (by decide) (by decide)
  obtain ⟨b1, gq1⟩ : ∃ z, z = h0.size := ⟨_, rfl⟩
  rw [← gq1] at A1 D1 st1
  have f2 : Fld Z h1 b1 "com/example/tuplet/tuplet/Commands$Option" "name" "Ljava/lang/String;" .null := D1 (Or.inr (w57 hw)) (ty := (.object "java/lang/String")) (by decide)
  have f3 : Fld Z h1 b1 "com/example/tuplet/tuplet/Commands$Option" "kind" "Lcom/example/tuplet/tuplet/Commands$Kind;" .null := D1 (Or.inr (w59 hw)) (ty := (.object "com/example/tuplet/tuplet/Commands$Kind")) (by decide)
  have f4 : Fld Z h1 b1 "com/example/tuplet/tuplet/Commands$Option" "label" "Ljava/lang/String;" .null := D1 (Or.inr (w61 hw)) (ty := (.object "java/lang/String")) (by decide)
  have f5 : Fld Z h1 b1 "com/example/tuplet/tuplet/Commands$Option" "help" "Ljava/lang/String;" .null := D1 (Or.inr (w63 hw)) (ty := (.object "java/lang/String")) (by decide)
  have f6 : Fld Z h1 b1 "com/example/tuplet/tuplet/Commands$Option" "required" "Z" (.int 0) := D1 (Or.inr (w65 hw)) (ty := .boolean) (by decide)
  have f7 : Fld Z h1 b1 "com/example/tuplet/tuplet/Commands$Option" "byDefault" "Ljava/lang/String;" .null := D1 (Or.inr (w67 hw)) (ty := (.object "java/lang/String")) (by decide)
  refine go_st (fun t k => st1 t k) ?_
  show Go _ _ _ _ (T1.setTop (mkF m 3 #[.val v0, .val v1, .val v2, .val v3] [(.ref b1)]))
  refine go_st (fun t k => XS.dup X1.here hx rfl (hb hby d10_3) rfl rfl k) ?_
  show Go _ _ _ _ (T1.setTop (mkF m 4 #[.val v0, .val v1, .val v2, .val v3] [(.ref b1), (.ref b1)]))
  refine go_st (fun t k => XS.aloadN X1.here hx rfl (hb hby d10_4) rfl hv0 k) ?_
  show Go _ _ _ _ (T1.setTop (mkF m 5 #[.val v0, .val v1, .val v2, .val v3] [v0, (.ref b1), (.ref b1)]))
  refine go_st (fun t k => XS.aloadN X1.here hx rfl (hb hby d10_5) rfl hv1 k) ?_
  show Go _ _ _ _ (T1.setTop (mkF m 6 #[.val v0, .val v1, .val v2, .val v3] [v1, v0, (.ref b1), (.ref b1)]))
  refine go_st (fun t k => XS.aloadN X1.here hx rfl (hb hby d10_6) rfl hv2 k) ?_
  show Go _ _ _ _ (T1.setTop (mkF m 7 #[.val v0, .val v1, .val v2, .val v3] [v2, v1, v0, (.ref b1), (.ref b1)]))
  refine go_st (fun t k => XS.aloadN X1.here hx rfl (hb hby d10_7) rfl hv3 k) ?_
  show Go _ _ _ _ (T1.setTop (mkF m 8 #[.val v0, .val v1, .val v2, .val v3] [v3, v2, v1, v0, (.ref b1), (.ref b1)]))
  refine go_st (fun t k => XS.iconst X1.here hx rfl (hb hby d10_8) k) ?_
  show Go _ _ _ _ (T1.setTop (mkF m 9 #[.val v0, .val v1, .val v2, .val v3] [(.int 0), v3, v2, v1, v0, (.ref b1), (.ref b1)]))
  refine go_st (fun t k => XS.aconstNull X1.here hx rfl (hb hby d10_9) k) ?_
  show Go _ _ _ _ (T1.setTop (mkF m 10 #[.val v0, .val v1, .val v2, .val v3] [.null, (.int 0), v3, v2, v1, v0, (.ref b1), (.ref b1)]))
  have g_b1 : n0 ≤ b1 := Nat.le_trans (Nat.le_trans Z0 (Nat.le_refl _)) (Nat.le_of_eq gq1.symm)
  obtain ⟨_, _, ⟨T8, L8, kk8, nn8⟩, -, X8, ⟨Lc8, hQ8, lq8, yq8, zq8⟩, st8⟩ := X1.specialBack hx (y := (⟨"com/example/tuplet/tuplet/Commands$Option", "<init>", "(Ljava/lang/String;Lcom/example/tuplet/tuplet/Commands$Kind;Ljava/lang/String;Ljava/lang/String;ZLjava/lang/String;)V"⟩ : MethodName)) rfl hown (mvT hZ (w47 hw)) (mvT hZ (w48 hw)) (mvT hZ (w49 hw)) (by decide) (backOf (W := 1) (rm_ctor0 l Z a0 hw [] b1 v0 v1 v2 v3 .null h1 n0 (Nat.le_trans Z0 E1.1) A1 f2 f3 f4 f5 f6 f7 g_b1 hv0 hv1 hv2 hv3 rfl) hZ (w49 hw) (w43 hw) (by decide) (by decide)) (g := (mkF m 10 #[.val v0, .val v1, .val v2, .val v3] [.null, (.int 0), v3, v2, v1, v0, (.ref b1), (.ref b1)])) rfl (by rw [hml]; rfl) (Steps.refl _) (a := b1) (argsL := [v0, v1, v2, v3, (.int 0), .null]) (rest := [(.ref b1)]) (lenOf pd_1 rfl) rfl (by show 2 * 0 + _ ≤ _; exact Nat.le_of_eq rfl) (hb hby d10_10) (fun _ _ => ⟨rfl, e1, (by decide : 1 + 0 ≤ _), (by decide : 6 + 0 ≤ _)⟩)
  dsimp only [Pt.U, Pt.locs, Pt.cells, Pt.slots] at X8 lq8 yq8 zq8 st8 hQ8
  obtain rfl : kk8 = 1 := yq8
  obtain rfl : nn8 = 6 := zq8
  obtain ⟨h8, e8⟩ : ∃ z, T8.heap = z := ⟨_, rfl⟩
  rw [e8] at hQ8
  obtain ⟨rfl, N8q, K8, p8_0, p8_1, p8_2, p8_3, p8_4, p8_5, p8_6⟩ := hQ8
  have N8 : Fr n0 L8 := by rw [lq8]; exact Fr.app N0 N8q
  refine go_tr st8 ?_
  show Go _ _ _ _ (T8.setTop (mkF m 13 #[.val v0, .val v1, .val v2, .val v3] [(.ref b1)]))
  have ke9 : Keep h0 h1 [] := (Keep.ext (Keep.refl h0 []) E1)
  have ke10 : Keep h0 h8 [] := (Keep.trans ke9 K8 (allS (Or.inr (Nat.le_of_eq gq1.symm)) all0))
  obtain ⟨fs, hr, hrun, hended, hW, hsame⟩ := X8.leave (v := some (.ref b1)) (fun h => by rw [Bd.returns] at h; cases h)
  refine ⟨_, _, ?_, hrun, hended, _, _, rfl, ?_, ⟨_, rfl⟩, hW, hsame.mono (by decide) (by decide)⟩
  · exact retOut X8 hx Bd.returns rfl (Or.inr (Or.inr (Or.inr (Or.inr ⟨rfl, rfl, rfl⟩)))) (hb hby d10_13) hr
  · show Q_of _ _ _ _ _ _ _ _ T8.heap _
    rw [e8]
    exact ⟨b1, rfl, N8, ke10, g_b1, (Nat.le_of_eq gq1.symm), p8_0, p8_1, p8_2, p8_3, p8_4, p8_5, p8_6⟩
def Q_sisEmpty0 (Z : State) (xs : Addr) (xt : Addr) (kx : ClassId) (G1 : Int32) (h0 : Heap) (n0 : Nat) (vR : Option Value) (h : Heap) (L : List Loc) : Prop := vR = some (.int 1) ∧ Fr n0 L ∧ h = h0
theorem ef_sisEmpty0 (m : MethodId) (x0 : Addr) : entryFrame m #[(.ref x0)] 1 = mkF m 0 #[.val (.ref x0)] [] := by first | (simp [entryFrame, mkF, argsToLocals, Value.category]; done) | rfl
set_option maxRecDepth 65536 in
set_option maxHeartbeats 40000000 in
theorem rm_sisEmpty0 (l : Launch) (Z : State) (a0 : Array Value) (hw : ∀ d ∈ tables_1, d.before a0 Z = true) (ws : List Jvm.Cond) (xs : Addr) (xt : Addr) (kx : ClassId) (G1 : Int32) (h0 : Heap) (n0 : Nat) (Z0 : n0 ≤ h0.size) (H0 : Exa Z h0 xs "java/lang/String") (H1 : Fld Z h0 xs "java/lang/String" "value" "[B" (.ref xt)) (H2 : Fld Z h0 xs "java/lang/String" "coder" "B" (.int 0)) (H3 : Arv Z h0 xt kx .byte (0 : Int32) [] (.int (0 : Int32))) (CS : Sta Z Z.heap "java/lang/String" "COMPACT_STRINGS" "Z" (.int G1)) (CSn : ¬ (G1 = (0 : Int32))) (O0 : Old Z n0 h0) :
    MetFree l (⟨"java/lang/String", "isEmpty", "()Z"⟩ : MethodName) (head1 (Jvm.Cond.code (⟨"java/lang/String", "isEmpty", "()Z"⟩ : MethodName) jdk_42_method_55_code 1 (some .boolean) :: ws) ({ frames := 0, cells := 0, slots := 0, locals := 0 } : Room)) (fun a U => a = #[(.ref xs)] ∧ Z.Warmed39 U.vm ∧ U.heap = h0) (fun _ _ _ _ _ => True) (fun _ U o U' => ∃ v L, o = .returned v ∧ Q_sisEmpty0 Z xs xt kx G1 h0 n0 v U'.heap L ∧ FrameEnd U o U' L ({ frames := 0, cells := 0, slots := 0, locals := 0 } : Room).cells ({ frames := 0, cells := 0, slots := 0, locals := 0 } : Room).slots) := by
  refine MetFree.of_bodySF (plainFor_of_name pn_java_lang_String) hisR ?_
  intro p e s m args below meth c s₁ Bd hml0 hP hK
  obtain ⟨rfl, hZ, hh⟩ := hP
  have hx := Bd.exec
  have hby := Bd.bytes
  have hml : c.maxLocals = 1 := hml0
  have hown : s.vm.findClass "java/lang/String" = some m.cls := findClass_of_methodNamed Bd.named
  have hnm := (name_of_methodNamed Bd.named Bd.method).1
  have X0 : Stand p l e ({ frames := 0, cells := 0, slots := 0, locals := 0 } : Room) s m #[(.ref xs)] below meth c s₁ [] 0 0 := Stand.of_body Bd
  have e0 : s₁.heap = h0 := by rw [← hh, Bd.state]; rfl
  have N0 := Fr.nil n0
  refine go_st (fun t k => castTop (ef_sisEmpty0 m xs) k) ?_
  show Go _ _ _ _ (s₁.setTop (mkF m 0 #[rv xs] []))
  refine go_st (fun t k => XS.aloadN X0.here hx rfl (hb hby d12_0) rfl rfl k) ?_
  show Go _ _ _ _ (s₁.setTop (mkF m 1 #[rv xs] [(.ref xs)]))
  obtain ⟨T1, X1, e1, st1⟩ := getF X0 hx hZ hown (host := "") (Or.inl (w36 hw)) Via.refl e0 H1 (g := (mkF m 1 #[rv xs] [(.ref xs)])) rfl rfl (hb hby d12_1)
  refine go_st (fun t k => st1 t k) ?_
  show Go _ _ _ _ (T1.setTop (mkF m 4 #[rv xs] [(.ref xt)]))
  obtain ⟨zc2, zA2, zq2, zS2, zN2, zH2, zG2⟩ := id H3
  refine go_st (fun t k => X1.arraylength hx (by rw [e1]; exact zA2.1) (State.isArrayOf_alike hZ.alike zA2.2.1) (g := (mkF m 4 #[rv xs] [(.ref xt)])) rfl rfl (hb hby d12_4) t k) ?_
  rw [len_of zS2 zN2]
  show Go _ _ _ _ (T1.setTop (mkF m 5 #[rv xs] [(.int 0)]))
  refine go_st (fun t k => XS.ifNo X1.here hx rfl (hb hby d12_5) rfl ((if0 _ _).trans (teq ((by decide) : (0 : Int32) = (0 : Int32))).2) k) ?_
  show Go _ _ _ _ (T1.setTop (mkF m 8 #[rv xs] []))
  refine go_st (fun t k => XS.iconst X1.here hx rfl (hb hby d12_8) k) ?_
  show Go _ _ _ _ (T1.setTop (mkF m 9 #[rv xs] [(.int 1)]))
  refine go_st (fun t k => XS.goto X1.here hx rfl (pc0 := 9) (pc' := 13) rfl (hb hby d12_9) (by decide) (by decide) k) ?_
  show Go _ _ _ _ (T1.setTop (mkF m 13 #[rv xs] [(.int 1)]))
  obtain ⟨fs, hr, hrun, hended, hW, hsame⟩ := X1.leave (v := some (.int 1)) (fun h => by rw [Bd.returns] at h; cases h)
  refine ⟨_, _, ?_, hrun, hended, _, _, rfl, ?_, ⟨_, rfl⟩, hW, hsame.mono (by decide) (by decide)⟩
  · exact retN X1 hx (t := .boolean) Bd.returns (by simp) (hb hby d12_13) hr
  · show Q_sisEmpty0 _ _ _ _ _ _ _ _ T1.heap _
    rw [e1]
    exact ⟨rfl, N0, rfl⟩
def Q_shown0 (Z : State) (oo : Addr) (ns : Addr) (ls : Addr) (lt : Addr) (kl : ClassId) (G1 : Int32) (h0 : Heap) (n0 : Nat) (vR : Option Value) (h : Heap) (L : List Loc) : Prop := vR = some (.ref ns) ∧ Fr n0 L ∧ h = h0
theorem ef_shown0 (m : MethodId) (x0 : Addr) : entryFrame m #[(.ref x0)] 1 = mkF m 0 #[.val (.ref x0)] [] := by first | (simp [entryFrame, mkF, argsToLocals, Value.category]; done) | rfl
set_option maxRecDepth 65536 in
set_option maxHeartbeats 40000000 in
theorem rm_shown0 (l : Launch) (Z : State) (a0 : Array Value) (hw : ∀ d ∈ tables_1, d.before a0 Z = true) (ws : List Jvm.Cond) (oo : Addr) (ns : Addr) (ls : Addr) (lt : Addr) (kl : ClassId) (G1 : Int32) (h0 : Heap) (n0 : Nat) (Z0 : n0 ≤ h0.size) (H0 : Exa Z h0 oo "com/example/tuplet/tuplet/Commands$Option") (H1 : Fld Z h0 oo "com/example/tuplet/tuplet/Commands$Option" "name" "Ljava/lang/String;" (.ref ns)) (H2 : Fld Z h0 oo "com/example/tuplet/tuplet/Commands$Option" "label" "Ljava/lang/String;" (.ref ls)) (H3 : Exa Z h0 ls "java/lang/String") (H4 : Fld Z h0 ls "java/lang/String" "value" "[B" (.ref lt)) (H5 : Fld Z h0 ls "java/lang/String" "coder" "B" (.int 0)) (H6 : Arv Z h0 lt kl .byte (0 : Int32) [] (.int (0 : Int32))) (CS : Sta Z Z.heap "java/lang/String" "COMPACT_STRINGS" "Z" (.int G1)) (CSn : ¬ (G1 = (0 : Int32))) (O0 : Old Z n0 h0) :
    MetFree l (⟨"com/example/tuplet/tuplet/Commands$Option", "shown", "()Ljava/lang/String;"⟩ : MethodName) (head1 (Jvm.Cond.code (⟨"com/example/tuplet/tuplet/Commands$Option", "shown", "()Ljava/lang/String;"⟩ : MethodName) prog_6_method_6_code 1 (some (.object "java/lang/String")) :: ws) ({ frames := 1, cells := 0, slots := 0, locals := 12 } : Room)) (fun a U => a = #[(.ref oo)] ∧ Z.Warmed39 U.vm ∧ U.heap = h0) (fun _ _ _ _ _ => True) (fun _ U o U' => ∃ v L, o = .returned v ∧ Q_shown0 Z oo ns ls lt kl G1 h0 n0 v U'.heap L ∧ FrameEnd U o U' L ({ frames := 1, cells := 0, slots := 0, locals := 12 } : Room).cells ({ frames := 1, cells := 0, slots := 0, locals := 12 } : Room).slots) := by
  refine MetFree.of_bodySF (plainFor_of_name pn_com_example_tuplet_tuplet_Commands_Option) hisR ?_
  intro p e s m args below meth c s₁ Bd hml0 hP hK
  obtain ⟨rfl, hZ, hh⟩ := hP
  have hx := Bd.exec
  have hby := Bd.bytes
  have hml : c.maxLocals = 1 := hml0
  have hown : s.vm.findClass "com/example/tuplet/tuplet/Commands$Option" = some m.cls := findClass_of_methodNamed Bd.named
  have hnm := (name_of_methodNamed Bd.named Bd.method).1
  have X0 : Stand p l e ({ frames := 1, cells := 0, slots := 0, locals := 12 } : Room) s m #[(.ref oo)] below meth c s₁ [] 0 0 := Stand.of_body Bd
  have e0 : s₁.heap = h0 := by rw [← hh, Bd.state]; rfl
  have N0 := Fr.nil n0
  refine go_st (fun t k => castTop (ef_shown0 m oo) k) ?_
  show Go _ _ _ _ (s₁.setTop (mkF m 0 #[rv oo] []))
  refine go_st (fun t k => XS.aloadN X0.here hx rfl (hb hby d11_0) rfl rfl k) ?_
  show Go _ _ _ _ (s₁.setTop (mkF m 1 #[rv oo] [(.ref oo)]))
  obtain ⟨T1, X1, e1, st1⟩ := getF X0 hx hZ hown (host := "") (Or.inl (w60 hw)) Via.refl e0 H2 (g := (mkF m 1 #[rv oo] [(.ref oo)])) rfl rfl (hb hby d11_1)
  refine go_st (fun t k => st1 t k) ?_
  show Go _ _ _ _ (T1.setTop (mkF m 4 #[rv oo] [(.ref ls)]))
  obtain ⟨cq2, kq2, q2a, q2b, q2c⟩ := isOf hZ e1 H3
  obtain ⟨_, _, ⟨T2, L2, kk2, nn2⟩, -, X2, ⟨Lc2, hQ2, lq2, yq2, zq2⟩, st2⟩ := X1.virtualBack hx (y := (⟨"java/lang/String", "isEmpty", "()Z"⟩ : MethodName)) (z := (⟨"java/lang/String", "isEmpty", "()Z"⟩ : MethodName)) hown (mvT hZ (w108 hw)) (mvT hZ (w109 hw)) (nf_same (y := (⟨"java/lang/String", "isEmpty", "()Z"⟩ : MethodName)) (y' := (⟨"java/lang/String", "equals", "(Ljava/lang/Object;)Z"⟩ : MethodName)) (a0 := #[]) rfl (mvT hZ (w75 hw)) (notFace_of_selects (args := #[]) (mvT hZ (w76 hw)))) (mvT hZ (w111 hw)) (mvT hZ (w110 hw)) (by decide) (backOf (W := 0) (rm_sisEmpty0 l Z a0 hw [] ls lt kl G1 h0 n0 (Nat.le_trans Z0 (Nat.le_refl _)) H3 H4 H5 H6 CS CSn O0) hZ (w112 hw) (w11 hw) (by decide) (by decide)) q2a q2c (g := (mkF m 4 #[rv oo] [(.ref ls)])) rfl (by rw [hml]; rfl) (Steps.refl _) (argsL := []) (rest := []) (lenOf pd_2 rfl) rfl (by show 2 * 0 + _ ≤ _; exact Nat.le_of_eq rfl) (hb hby d11_4) (fun _ _ => ⟨rfl, e1, (by decide : 0 + 0 ≤ _), (by decide : 0 + 0 ≤ _)⟩)
  dsimp only [Pt.U, Pt.locs, Pt.cells, Pt.slots] at X2 lq2 yq2 zq2 st2 hQ2
  obtain rfl : kk2 = 0 := yq2
  obtain rfl : nn2 = 0 := zq2
  obtain ⟨h2, e2⟩ : ∃ z, T2.heap = z := ⟨_, rfl⟩
  rw [e2] at hQ2
  obtain ⟨rfl, N2q, he2⟩ := hQ2
  have N2 : Fr n0 L2 := by rw [lq2]; exact Fr.app N0 N2q
  rw [he2] at e2
  refine go_tr st2 ?_
  show Go _ _ _ _ (T2.setTop (mkF m 7 #[rv oo] [(.int 1)]))
  refine go_st (fun t k => XS.ifNo X2.here hx rfl (hb hby d11_7) rfl ((if0 _ _).trans (feq ((by decide) : ¬ ((1 : Int32) = (0 : Int32)))).1) k) ?_
  show Go _ _ _ _ (T2.setTop (mkF m 10 #[rv oo] []))
  refine go_st (fun t k => XS.aloadN X2.here hx rfl (hb hby d11_10) rfl rfl k) ?_
  show Go _ _ _ _ (T2.setTop (mkF m 11 #[rv oo] [(.ref oo)]))
  obtain ⟨T3, X3, e3, st3⟩ := getF X2 hx hZ hown (host := "") (Or.inl (w56 hw)) Via.refl e2 H1 (g := (mkF m 11 #[rv oo] [(.ref oo)])) rfl rfl (hb hby d11_11)
  refine go_st (fun t k => st3 t k) ?_
  show Go _ _ _ _ (T3.setTop (mkF m 14 #[rv oo] [(.ref ns)]))
  refine go_st (fun t k => XS.goto X3.here hx rfl (pc0 := 14) (pc' := 46) rfl (hb hby d11_14) (by decide) (by decide) k) ?_
  show Go _ _ _ _ (T3.setTop (mkF m 46 #[rv oo] [(.ref ns)]))
  obtain ⟨fs, hr, hrun, hended, hW, hsame⟩ := X3.leave (v := some (.ref ns)) (fun h => by rw [Bd.returns] at h; cases h)
  refine ⟨_, _, ?_, hrun, hended, _, _, rfl, ?_, ⟨_, rfl⟩, hW, hsame.mono (by decide) (by decide)⟩
  · exact retOut X3 hx Bd.returns rfl (Or.inr (Or.inr (Or.inr (Or.inr ⟨rfl, rfl, rfl⟩)))) (hb hby d11_46) hr
  · show Q_shown0 _ _ _ _ _ _ _ _ _ _ T3.heap _
    rw [e3]
    exact ⟨rfl, N2, rfl⟩
def Q_sisEmpty1 (Z : State) (xs : Addr) (xt : Addr) (kx : ClassId) (y0 : Int32) (G1 : Int32) (h0 : Heap) (n0 : Nat) (vR : Option Value) (h : Heap) (L : List Loc) : Prop := vR = some (.int 0) ∧ Fr n0 L ∧ h = h0
theorem ef_sisEmpty1 (m : MethodId) (x0 : Addr) : entryFrame m #[(.ref x0)] 1 = mkF m 0 #[.val (.ref x0)] [] := by first | (simp [entryFrame, mkF, argsToLocals, Value.category]; done) | rfl
set_option maxRecDepth 65536 in
set_option maxHeartbeats 40000000 in
theorem rm_sisEmpty1 (l : Launch) (Z : State) (a0 : Array Value) (hw : ∀ d ∈ tables_1, d.before a0 Z = true) (ws : List Jvm.Cond) (xs : Addr) (xt : Addr) (kx : ClassId) (y0 : Int32) (G1 : Int32) (h0 : Heap) (n0 : Nat) (Z0 : n0 ≤ h0.size) (H0 : Exa Z h0 xs "java/lang/String") (H1 : Fld Z h0 xs "java/lang/String" "value" "[B" (.ref xt)) (H2 : Fld Z h0 xs "java/lang/String" "coder" "B" (.int 0)) (H3 : Arv Z h0 xt kx .byte (1 : Int32) [(.int y0)] (.int (0 : Int32))) (CS : Sta Z Z.heap "java/lang/String" "COMPACT_STRINGS" "Z" (.int G1)) (CSn : ¬ (G1 = (0 : Int32))) (O0 : Old Z n0 h0) :
    MetFree l (⟨"java/lang/String", "isEmpty", "()Z"⟩ : MethodName) (head1 (Jvm.Cond.code (⟨"java/lang/String", "isEmpty", "()Z"⟩ : MethodName) jdk_42_method_55_code 1 (some .boolean) :: ws) ({ frames := 0, cells := 0, slots := 0, locals := 0 } : Room)) (fun a U => a = #[(.ref xs)] ∧ Z.Warmed39 U.vm ∧ U.heap = h0) (fun _ _ _ _ _ => True) (fun _ U o U' => ∃ v L, o = .returned v ∧ Q_sisEmpty1 Z xs xt kx y0 G1 h0 n0 v U'.heap L ∧ FrameEnd U o U' L ({ frames := 0, cells := 0, slots := 0, locals := 0 } : Room).cells ({ frames := 0, cells := 0, slots := 0, locals := 0 } : Room).slots) := by
  refine MetFree.of_bodySF (plainFor_of_name pn_java_lang_String) hisR ?_
  intro p e s m args below meth c s₁ Bd hml0 hP hK
  obtain ⟨rfl, hZ, hh⟩ := hP
  have hx := Bd.exec
  have hby := Bd.bytes
  have hml : c.maxLocals = 1 := hml0
  have hown : s.vm.findClass "java/lang/String" = some m.cls := findClass_of_methodNamed Bd.named
  have hnm := (name_of_methodNamed Bd.named Bd.method).1
  have X0 : Stand p l e ({ frames := 0, cells := 0, slots := 0, locals := 0 } : Room) s m #[(.ref xs)] below meth c s₁ [] 0 0 := Stand.of_body Bd
  have e0 : s₁.heap = h0 := by rw [← hh, Bd.state]; rfl
  have N0 := Fr.nil n0
  refine go_st (fun t k => castTop (ef_sisEmpty1 m xs) k) ?_
  show Go _ _ _ _ (s₁.setTop (mkF m 0 #[rv xs] []))
  refine go_st (fun t k => XS.aloadN X0.here hx rfl (hb hby d12_0) rfl rfl k) ?_
  show Go _ _ _ _ (s₁.setTop (mkF m 1 #[rv xs] [(.ref xs)]))
  obtain ⟨T1, X1, e1, st1⟩ := getF X0 hx hZ hown (host := "") (Or.inl (w36 hw)) Via.refl e0 H1 (g := (mkF m 1 #[rv xs] [(.ref xs)])) rfl rfl (hb hby d12_1)
  refine go_st (fun t k => st1 t k) ?_
  show Go _ _ _ _ (T1.setTop (mkF m 4 #[rv xs] [(.ref xt)]))
  obtain ⟨zc2, zA2, zq2, zS2, zN2, zH2, zG2⟩ := id H3
  refine go_st (fun t k => X1.arraylength hx (by rw [e1]; exact zA2.1) (State.isArrayOf_alike hZ.alike zA2.2.1) (g := (mkF m 4 #[rv xs] [(.ref xt)])) rfl rfl (hb hby d12_4) t k) ?_
  rw [len_of zS2 zN2]
  show Go _ _ _ _ (T1.setTop (mkF m 5 #[rv xs] [(.int 1)]))
  refine go_st (fun t k => XS.ifYes X1.here hx rfl (pc0 := 5) (pc' := 12) rfl (hb hby d12_5) rfl ((if0 _ _).trans (feq ((by decide) : ¬ ((1 : Int32) = (0 : Int32)))).2) (by decide) (by decide) k) ?_
  show Go _ _ _ _ (T1.setTop (mkF m 12 #[rv xs] []))
  refine go_st (fun t k => XS.iconst X1.here hx rfl (hb hby d12_12) k) ?_
  show Go _ _ _ _ (T1.setTop (mkF m 13 #[rv xs] [(.int 0)]))
  obtain ⟨fs, hr, hrun, hended, hW, hsame⟩ := X1.leave (v := some (.int 0)) (fun h => by rw [Bd.returns] at h; cases h)
  refine ⟨_, _, ?_, hrun, hended, _, _, rfl, ?_, ⟨_, rfl⟩, hW, hsame.mono (by decide) (by decide)⟩
  · exact retN X1 hx (t := .boolean) Bd.returns (by simp) (hb hby d12_13) hr
  · show Q_sisEmpty1 _ _ _ _ _ _ _ _ _ T1.heap _
    rw [e1]
    exact ⟨rfl, N0, rfl⟩
def Q_asbinit (Z : State) (sb : Addr) (G1 : Int32) (h0 : Heap) (n0 : Nat) (vR : Option Value) (h : Heap) (L : List Loc) : Prop := ∃ (va : Addr) (kv : ClassId), vR = none ∧ Fr n0 L ∧ Keep h0 h [sb] ∧ n0 ≤ va ∧ h0.size ≤ va ∧ (Exa Z h sb "java/lang/StringBuilder") ∧ (Fld Z h sb "java/lang/AbstractStringBuilder" "value" "[B" (.ref va)) ∧ (Fld Z h sb "java/lang/AbstractStringBuilder" "coder" "B" (.int 0)) ∧ (Fld Z h sb "java/lang/AbstractStringBuilder" "count" "I" (.int 0)) ∧ (Arv Z h va kv .byte (16 : Int32) [(.int 0), (.int 0), (.int 0), (.int 0)] (.int (0 : Int32)))
theorem ef_asbinit (m : MethodId) (x0 : Addr) (x1 : Int32) : entryFrame m #[(.ref x0), (.int x1)] 2 = mkF m 0 #[.val (.ref x0), .val (.int x1)] [] := by first | (simp [entryFrame, mkF, argsToLocals, Value.category]; done) | rfl
set_option maxRecDepth 65536 in
set_option maxHeartbeats 40000000 in
theorem rm_asbinit (l : Launch) (Z : State) (a0 : Array Value) (hw : ∀ d ∈ tables_1, d.before a0 Z = true) (ws : List Jvm.Cond) (sb : Addr) (G1 : Int32) (h0 : Heap) (n0 : Nat) (Z0 : n0 ≤ h0.size) (H0 : Exa Z h0 sb "java/lang/StringBuilder") (H1 : Fld Z h0 sb "java/lang/AbstractStringBuilder" "value" "[B" .null) (H2 : Fld Z h0 sb "java/lang/AbstractStringBuilder" "coder" "B" (.int 0)) (H3 : Fld Z h0 sb "java/lang/AbstractStringBuilder" "count" "I" (.int 0)) (g_sb : n0 ≤ sb) (CS : Sta Z Z.heap "java/lang/String" "COMPACT_STRINGS" "Z" (.int G1)) (CSn : ¬ (G1 = (0 : Int32))) (O0 : Old Z n0 h0) :
    MetFree l (⟨"java/lang/AbstractStringBuilder", "<init>", "(I)V"⟩ : MethodName) (head1 (Jvm.Cond.code (⟨"java/lang/AbstractStringBuilder", "<init>", "(I)V"⟩ : MethodName) jdk_68_method_2_code 2 none :: ws) ({ frames := 1, cells := 1, slots := 16, locals := 12 } : Room)) (fun a U => a = #[(.ref sb), (.int 16)] ∧ Z.Warmed39 U.vm ∧ U.heap = h0) (fun _ _ _ _ _ => True) (fun _ U o U' => ∃ v L, o = .returned v ∧ Q_asbinit Z sb G1 h0 n0 v U'.heap L ∧ FrameEnd U o U' L ({ frames := 1, cells := 1, slots := 16, locals := 12 } : Room).cells ({ frames := 1, cells := 1, slots := 16, locals := 12 } : Room).slots) := by
  refine MetFree.of_bodySF (plainFor_of_name pn_java_lang_AbstractStringBuilder) hisR ?_
  intro p e s m args below meth c s₁ Bd hml0 hP hK
  obtain ⟨rfl, hZ, hh⟩ := hP
  have hx := Bd.exec
  have hby := Bd.bytes
  have hml : c.maxLocals = 2 := hml0
  have hown : s.vm.findClass "java/lang/AbstractStringBuilder" = some m.cls := findClass_of_methodNamed Bd.named
  have hnm := (name_of_methodNamed Bd.named Bd.method).1
  have X0 : Stand p l e ({ frames := 1, cells := 1, slots := 16, locals := 12 } : Room) s m #[(.ref sb), (.int 16)] below meth c s₁ [] 0 0 := Stand.of_body Bd
  have e0 : s₁.heap = h0 := by rw [← hh, Bd.state]; rfl
  have N0 := Fr.nil n0
  refine go_st (fun t k => castTop (ef_asbinit m sb (16 : Int32)) k) ?_
  show Go _ _ _ _ (s₁.setTop (mkF m 0 #[rv sb, iv 16] []))
  refine go_st (fun t k => XS.aloadN X0.here hx rfl (hb hby d14_0) rfl rfl k) ?_
  show Go _ _ _ _ (s₁.setTop (mkF m 1 #[rv sb, iv 16] [(.ref sb)]))
  obtain ⟨T1, X1, e1, st1⟩ := initO X0 hx hZ hown (w143 hw) (w20 hw) (w21 hw) e0 (g := (mkF m 1 #[rv sb, iv 16] [(.ref sb)])) rfl (by rw [hml]; rfl) rfl (hb hby d14_1) (by decide) (W := 0) (by show 2 * 0 + _ ≤ _; exact Nat.le_of_eq rfl) (by decide)
  refine go_st (fun t k => st1 t k) ?_
  show Go _ _ _ _ (T1.setTop (mkF m 4 #[rv sb, iv 16] []))
  obtain ⟨T2, X2, e2, st2⟩ := getS2 X1 hx hZ hown (host := "") (Or.inl (w144 hw)) Via.refl e1 (Sta.ext O0.2 CS) (g := (mkF m 4 #[rv sb, iv 16] [])) rfl (hb hby d14_4)
  refine go_st (fun t k => st2 t k) ?_
  show Go _ _ _ _ (T2.setTop (mkF m 7 #[rv sb, iv 16] [(.int G1)]))
  refine go_st (fun t k => XS.ifNo X2.here hx rfl (hb hby d14_7) rfl ((if0 _ _).trans (feq (CSn : ¬ (G1 = (0 : Int32)))).1) k) ?_
  show Go _ _ _ _ (T2.setTop (mkF m 10 #[rv sb, iv 16] []))
  refine go_st (fun t k => XS.aloadN X2.here hx rfl (hb hby d14_10) rfl rfl k) ?_
  show Go _ _ _ _ (T2.setTop (mkF m 11 #[rv sb, iv 16] [(.ref sb)]))
  refine go_st (fun t k => XS.iloadN X2.here hx rfl (hb hby d14_11) rfl k) ?_
  show Go _ _ _ _ (T2.setTop (mkF m 12 #[rv sb, iv 16] [(.int 16), (.ref sb)]))
  obtain ⟨T3, h3, kc3, X3, e3, E3, A3, st3⟩ := newP X2 hx hZ (aty := .byte) (w27 hw) e2 (g := (mkF m 12 #[rv sb, iv 16] [(.int 16), (.ref sb)])) rfl (hb hby d14_12) rfl (by decide) (cap := 16) (by decide) (by decide) (by decide) (by decide)
  obtain ⟨b3, gq3⟩ : ∃ z, z = h0.size := ⟨_, rfl⟩
  rw [← gq3] at A3 st3
  have f4 : Arv Z h3 b3 kc3 .byte (16 : Int32) [(.int 0), (.int 0), (.int 0), (.int 0)] (.int 0) := (Arv.new A3 (by decide)).pad (pad_rep [] (.int 0) 4)
  refine go_st (fun t k => st3 t k) ?_
  show Go _ _ _ _ (T3.setTop (mkF m 14 #[rv sb, iv 16] [(.ref b3), (.ref sb)]))
  have f5 : Fld Z h3 sb "java/lang/AbstractStringBuilder" "value" "[B" .null := (H1.ext E3)
  have f6 : Exa Z h3 sb "java/lang/StringBuilder" := (H0.ext E3)
  obtain ⟨T7, h7, X7, e7, W7, st7⟩ := putF X3 hx hZ hown (host := "") (Or.inl (w145 hw)) Via.refl e3 f5 f6 (Or.inl (w146 hw)) (w132 hw) (ty := (.array .byte)) (by decide) rfl rfl (g := (mkF m 14 #[rv sb, iv 16] [(.ref b3), (.ref sb)])) rfl rfl (hb hby d14_14)
  have N7 := Fr.snoc X7 N0 g_sb
  have f8 : Fld Z h7 sb "java/lang/AbstractStringBuilder" "value" "[B" (.ref b3) := f5.same W7
  refine go_st (fun t k => st7 t k) ?_
  show Go _ _ _ _ (T7.setTop (mkF m 17 #[rv sb, iv 16] []))
  refine go_st (fun t k => XS.aloadN X7.here hx rfl (hb hby d14_17) rfl rfl k) ?_
  show Go _ _ _ _ (T7.setTop (mkF m 18 #[rv sb, iv 16] [(.ref sb)]))
  refine go_st (fun t k => XS.iconst X7.here hx rfl (hb hby d14_18) k) ?_
  show Go _ _ _ _ (T7.setTop (mkF m 19 #[rv sb, iv 16] [(.int 0), (.ref sb)]))
  have f9 : Fld Z h7 sb "java/lang/AbstractStringBuilder" "coder" "B" (.int 0) := ((H2.ext E3).other W7 (Or.inr (slot_ne (Or.inl (w148 hw)) (Or.inl (w146 hw)) (by decide) (t := .byte) (t' := (.array .byte)) (by decide) (by decide))))
  have f10 : Exa Z h7 sb "java/lang/StringBuilder" := (f6.wr W7)
  obtain ⟨T11, h11, X11, e11, W11, st11⟩ := putFN X7 hx hZ hown (w147 hw) Via.refl e7 f9 f10 (Or.inl (w148 hw)) (w132 hw) (ty := .byte) (v' := (.int 0)) (by decide) rfl rfl (g := (mkF m 19 #[rv sb, iv 16] [(.int 0), (.ref sb)])) rfl rfl (hb hby d14_19)
  have N11 := Fr.snoc X11 N7 g_sb
  have f12 : Fld Z h11 sb "java/lang/AbstractStringBuilder" "coder" "B" (.int 0) := f9.same W11
  refine go_st (fun t k => st11 t k) ?_
  show Go _ _ _ _ (T11.setTop (mkF m 22 #[rv sb, iv 16] []))
  refine go_st (fun t k => XS.goto X11.here hx rfl (pc0 := 22) (pc' := 38) rfl (hb hby d14_22) (by decide) (by decide) k) ?_
  show Go _ _ _ _ (T11.setTop (mkF m 38 #[rv sb, iv 16] []))
  have g_b3 : n0 ≤ b3 := Nat.le_trans (Nat.le_trans Z0 (Nat.le_refl _)) (Nat.le_of_eq gq3.symm)
  have f13 : Exa Z h11 sb "java/lang/StringBuilder" := (f10.wr W11)
  have f14 : Fld Z h11 sb "java/lang/AbstractStringBuilder" "value" "[B" (.ref b3) := (f8.other W11 (Or.inr (slot_ne (Or.inl (w146 hw)) (Or.inl (w148 hw)) (by decide) (t := (.array .byte)) (t' := .byte) (by decide) (by decide))))
  have f15 : Fld Z h11 sb "java/lang/AbstractStringBuilder" "count" "I" (.int 0) := (((H3.ext E3).other W7 (Or.inr (slot_ne (Or.inl (w170 hw)) (Or.inl (w146 hw)) (by decide) (t := .int) (t' := (.array .byte)) (by decide) (by decide)))).other W11 (Or.inr (slot_ne (Or.inl (w170 hw)) (Or.inl (w148 hw)) (by decide) (t := .int) (t' := .byte) (by decide) (by decide))))
  have nq16 : sb ≠ b3 := Nat.ne_of_lt (Nat.lt_of_lt_of_le (Nat.lt_of_lt_of_le H0.lt (Nat.le_refl _)) (Nat.le_of_eq gq3.symm))
  have f17 : Arv Z h11 b3 kc3 .byte (16 : Int32) [(.int 0), (.int 0), (.int 0), (.int 0)] (.int 0) := ((f4.other W7 (Ne.symm nq16)).other W11 (Ne.symm nq16))
  have ke18 : Keep h0 h3 [sb] := (Keep.ext (Keep.refl h0 [sb]) E3)
  have ke19 : Keep h0 h7 [sb] := (Keep.wr ke18 W7 (Or.inl (List.mem_of_getElem? (i := 0) rfl)))
  have ke20 : Keep h0 h11 [sb] := (Keep.wr ke19 W11 (Or.inl (List.mem_of_getElem? (i := 0) rfl)))
  obtain ⟨fs, hr, hrun, hended, hW, hsame⟩ := X11.leave (v := none) (fun _ => rfl)
  refine ⟨_, _, ?_, hrun, hended, _, _, rfl, ?_, ⟨_, rfl⟩, hW, hsame.mono (by decide) (by decide)⟩
  · exact X11.returnOut hx Bd.returns (hb hby d14_38) hr
  · show Q_asbinit _ _ _ _ _ _ T11.heap _
    rw [e11]
    exact ⟨b3, kc3, rfl, N11, ke20, g_b3, (Nat.le_of_eq gq3.symm), f13, f14, f12, f15, f17⟩
def Q_sbinit (Z : State) (sb : Addr) (G1 : Int32) (h0 : Heap) (n0 : Nat) (vR : Option Value) (h : Heap) (L : List Loc) : Prop := ∃ (va : Addr) (kv : ClassId), vR = none ∧ Fr n0 L ∧ Keep h0 h [sb] ∧ n0 ≤ va ∧ h0.size ≤ va ∧ (Exa Z h sb "java/lang/StringBuilder") ∧ (Fld Z h sb "java/lang/AbstractStringBuilder" "value" "[B" (.ref va)) ∧ (Fld Z h sb "java/lang/AbstractStringBuilder" "coder" "B" (.int 0)) ∧ (Fld Z h sb "java/lang/AbstractStringBuilder" "count" "I" (.int 0)) ∧ (Arv Z h va kv .byte (16 : Int32) [(.int 0), (.int 0), (.int 0), (.int 0)] (.int (0 : Int32)))
theorem ef_sbinit (m : MethodId) (x0 : Addr) : entryFrame m #[(.ref x0)] 1 = mkF m 0 #[.val (.ref x0)] [] := by first | (simp [entryFrame, mkF, argsToLocals, Value.category]; done) | rfl
set_option maxRecDepth 65536 in
set_option maxHeartbeats 40000000 in
theorem rm_sbinit (l : Launch) (Z : State) (a0 : Array Value) (hw : ∀ d ∈ tables_1, d.before a0 Z = true) (ws : List Jvm.Cond) (sb : Addr) (G1 : Int32) (h0 : Heap) (n0 : Nat) (Z0 : n0 ≤ h0.size) (H0 : Exa Z h0 sb "java/lang/StringBuilder") (H1 : Fld Z h0 sb "java/lang/AbstractStringBuilder" "value" "[B" .null) (H2 : Fld Z h0 sb "java/lang/AbstractStringBuilder" "coder" "B" (.int 0)) (H3 : Fld Z h0 sb "java/lang/AbstractStringBuilder" "count" "I" (.int 0)) (g_sb : n0 ≤ sb) (CS : Sta Z Z.heap "java/lang/String" "COMPACT_STRINGS" "Z" (.int G1)) (CSn : ¬ (G1 = (0 : Int32))) (O0 : Old Z n0 h0) :
    MetFree l (⟨"java/lang/StringBuilder", "<init>", "()V"⟩ : MethodName) (head1 (Jvm.Cond.code (⟨"java/lang/StringBuilder", "<init>", "()V"⟩ : MethodName) jdk_67_method_1_code 1 none :: ws) ({ frames := 2, cells := 1, slots := 16, locals := 25 } : Room)) (fun a U => a = #[(.ref sb)] ∧ Z.Warmed39 U.vm ∧ U.heap = h0) (fun _ _ _ _ _ => True) (fun _ U o U' => ∃ v L, o = .returned v ∧ Q_sbinit Z sb G1 h0 n0 v U'.heap L ∧ FrameEnd U o U' L ({ frames := 2, cells := 1, slots := 16, locals := 25 } : Room).cells ({ frames := 2, cells := 1, slots := 16, locals := 25 } : Room).slots) := by
  refine MetFree.of_bodySF (plainFor_of_name pn_java_lang_StringBuilder) hisR ?_
  intro p e s m args below meth c s₁ Bd hml0 hP hK
  obtain ⟨rfl, hZ, hh⟩ := hP
  have hx := Bd.exec
  have hby := Bd.bytes
  have hml : c.maxLocals = 1 := hml0
  have hown : s.vm.findClass "java/lang/StringBuilder" = some m.cls := findClass_of_methodNamed Bd.named
  have hnm := (name_of_methodNamed Bd.named Bd.method).1
  have X0 : Stand p l e ({ frames := 2, cells := 1, slots := 16, locals := 25 } : Room) s m #[(.ref sb)] below meth c s₁ [] 0 0 := Stand.of_body Bd
  have e0 : s₁.heap = h0 := by rw [← hh, Bd.state]; rfl
  have N0 := Fr.nil n0
  refine go_st (fun t k => castTop (ef_sbinit m sb) k) ?_
  show Go _ _ _ _ (s₁.setTop (mkF m 0 #[rv sb] []))
  refine go_st (fun t k => XS.aloadN X0.here hx rfl (hb hby d13_0) rfl rfl k) ?_
  show Go _ _ _ _ (s₁.setTop (mkF m 1 #[rv sb] [(.ref sb)]))
  refine go_st (fun t k => XS.bipush X0.here hx rfl (hb hby d13_1) k) ?_
  show Go _ _ _ _ (s₁.setTop (mkF m 3 #[rv sb] [(.int 16), (.ref sb)]))
  obtain ⟨_, _, ⟨T1, L1, kk1, nn1⟩, -, X1, ⟨Lc1, hQ1, lq1, yq1, zq1⟩, st1⟩ := X0.specialBack hx (y := (⟨"java/lang/AbstractStringBuilder", "<init>", "(I)V"⟩ : MethodName)) rfl hown (mvT hZ (w137 hw)) (mvT hZ (w138 hw)) (mvT hZ (w142 hw)) (by decide) (backOf (W := 0) (rm_asbinit l Z a0 hw [] sb G1 h0 n0 (Nat.le_trans Z0 (Nat.le_refl _)) H0 H1 H2 H3 g_sb CS CSn O0) hZ (w142 hw) (w141 hw) (by decide) (by decide)) (g := (mkF m 3 #[rv sb] [(.int 16), (.ref sb)])) rfl (by rw [hml]; rfl) (Steps.refl _) (a := sb) (argsL := [(.int 16)]) (rest := []) (lenOf pd_3 rfl) rfl (by show 2 * 0 + _ ≤ _; exact Nat.le_of_eq rfl) (hb hby d13_3) (fun _ _ => ⟨rfl, e0, (by decide : 0 + 1 ≤ _), (by decide : 0 + 16 ≤ _)⟩)
  dsimp only [Pt.U, Pt.locs, Pt.cells, Pt.slots] at X1 lq1 yq1 zq1 st1 hQ1
  obtain rfl : kk1 = 1 := yq1
  obtain rfl : nn1 = 16 := zq1
  obtain ⟨h1, e1⟩ : ∃ z, T1.heap = z := ⟨_, rfl⟩
  rw [e1] at hQ1
  obtain ⟨va_1, kv_1, rfl, N1q, K1, gf1_0, lf1_0, p1_1, p1_2, p1_3, p1_4, p1_5⟩ := hQ1
  have N1 : Fr n0 L1 := by rw [lq1]; exact Fr.app N0 N1q
  refine go_tr st1 ?_
  show Go _ _ _ _ (T1.setTop (mkF m 6 #[rv sb] []))
  have ke2 : Keep h0 h1 [sb] := (Keep.trans (Keep.refl h0 [sb]) K1 (allS (Or.inl (List.mem_of_getElem? (i := 0) rfl)) all0))
  obtain ⟨fs, hr, hrun, hended, hW, hsame⟩ := X1.leave (v := none) (fun _ => rfl)
  refine ⟨_, _, ?_, hrun, hended, _, _, rfl, ?_, ⟨_, rfl⟩, hW, hsame.mono (by decide) (by decide)⟩
  · exact X1.returnOut hx Bd.returns (hb hby d13_6) hr
  · show Q_sbinit _ _ _ _ _ _ T1.heap _
    rw [e1]
    exact ⟨va_1, kv_1, rfl, N1, ke2, gf1_0, lf1_0, p1_1, p1_2, p1_3, p1_4, p1_5⟩
def Q_cod (Z : State) (xs : Addr) (G1 : Int32) (h0 : Heap) (n0 : Nat) (vR : Option Value) (h : Heap) (L : List Loc) : Prop := vR = some (.int 0) ∧ Fr n0 L ∧ h = h0
theorem ef_cod (m : MethodId) (x0 : Addr) : entryFrame m #[(.ref x0)] 1 = mkF m 0 #[.val (.ref x0)] [] := by first | (simp [entryFrame, mkF, argsToLocals, Value.category]; done) | rfl
set_option maxRecDepth 65536 in
set_option maxHeartbeats 40000000 in
theorem rm_cod (l : Launch) (Z : State) (a0 : Array Value) (hw : ∀ d ∈ tables_1, d.before a0 Z = true) (ws : List Jvm.Cond) (xs : Addr) (G1 : Int32) (h0 : Heap) (n0 : Nat) (Z0 : n0 ≤ h0.size) (H0 : Fld Z h0 xs "java/lang/String" "coder" "B" (.int 0)) (CS : Sta Z Z.heap "java/lang/String" "COMPACT_STRINGS" "Z" (.int G1)) (CSn : ¬ (G1 = (0 : Int32))) (O0 : Old Z n0 h0) :
    MetFree l (⟨"java/lang/String", "coder", "()B"⟩ : MethodName) (head1 (Jvm.Cond.code (⟨"java/lang/String", "coder", "()B"⟩ : MethodName) jdk_42_method_152_code 1 (some .byte) :: ws) ({ frames := 0, cells := 0, slots := 0, locals := 0 } : Room)) (fun a U => a = #[(.ref xs)] ∧ Z.Warmed39 U.vm ∧ U.heap = h0) (fun _ _ _ _ _ => True) (fun _ U o U' => ∃ v L, o = .returned v ∧ Q_cod Z xs G1 h0 n0 v U'.heap L ∧ FrameEnd U o U' L ({ frames := 0, cells := 0, slots := 0, locals := 0 } : Room).cells ({ frames := 0, cells := 0, slots := 0, locals := 0 } : Room).slots) := by
  refine MetFree.of_bodySF (plainFor_of_name pn_java_lang_String) hisR ?_
  intro p e s m args below meth c s₁ Bd hml0 hP hK
  obtain ⟨rfl, hZ, hh⟩ := hP
  have hx := Bd.exec
  have hby := Bd.bytes
  have hml : c.maxLocals = 1 := hml0
  have hown : s.vm.findClass "java/lang/String" = some m.cls := findClass_of_methodNamed Bd.named
  have hnm := (name_of_methodNamed Bd.named Bd.method).1
  have X0 : Stand p l e ({ frames := 0, cells := 0, slots := 0, locals := 0 } : Room) s m #[(.ref xs)] below meth c s₁ [] 0 0 := Stand.of_body Bd
  have e0 : s₁.heap = h0 := by rw [← hh, Bd.state]; rfl
  have N0 := Fr.nil n0
  refine go_st (fun t k => castTop (ef_cod m xs) k) ?_
  show Go _ _ _ _ (s₁.setTop (mkF m 0 #[rv xs] []))
  obtain ⟨T1, X1, e1, st1⟩ := getS2 X0 hx hZ hown (host := "") (Or.inl (w22 hw)) Via.refl e0 (Sta.ext O0.2 CS) (g := (mkF m 0 #[rv xs] [])) rfl (hb hby d18_0)
  refine go_st (fun t k => st1 t k) ?_
  show Go _ _ _ _ (T1.setTop (mkF m 3 #[rv xs] [(.int G1)]))
  refine go_st (fun t k => XS.ifNo X1.here hx rfl (hb hby d18_3) rfl ((if0 _ _).trans (feq (CSn : ¬ (G1 = (0 : Int32)))).1) k) ?_
  show Go _ _ _ _ (T1.setTop (mkF m 6 #[rv xs] []))
  refine go_st (fun t k => XS.aloadN X1.here hx rfl (hb hby d18_6) rfl rfl k) ?_
  show Go _ _ _ _ (T1.setTop (mkF m 7 #[rv xs] [(.ref xs)]))
  obtain ⟨T2, X2, e2, st2⟩ := getF X1 hx hZ hown (host := "") (Or.inl (w34 hw)) Via.refl e1 H0 (g := (mkF m 7 #[rv xs] [(.ref xs)])) rfl rfl (hb hby d18_7)
  refine go_st (fun t k => st2 t k) ?_
  show Go _ _ _ _ (T2.setTop (mkF m 10 #[rv xs] [(.int 0)]))
  refine go_st (fun t k => XS.goto X2.here hx rfl (pc0 := 10) (pc' := 14) rfl (hb hby d18_10) (by decide) (by decide) k) ?_
  show Go _ _ _ _ (T2.setTop (mkF m 14 #[rv xs] [(.int 0)]))
  obtain ⟨fs, hr, hrun, hended, hW, hsame⟩ := X2.leave (v := some (.int 0)) (fun h => by rw [Bd.returns] at h; cases h)
  refine ⟨_, _, ?_, hrun, hended, _, _, rfl, ?_, ⟨_, rfl⟩, hW, hsame.mono (by decide) (by decide)⟩
  · exact retN X2 hx (t := .byte) Bd.returns (by simp) (hb hby d18_14) hr
  · show Q_cod _ _ _ _ _ _ T2.heap _
    rw [e2]
    exact ⟨rfl, N0, rfl⟩
def Q_slength2 (Z : State) (xs : Addr) (xt : Addr) (kx : ClassId) (y0 : Int32) (y1 : Int32) (G1 : Int32) (h0 : Heap) (n0 : Nat) (vR : Option Value) (h : Heap) (L : List Loc) : Prop := vR = some (.int 2) ∧ Fr n0 L ∧ h = h0
theorem ef_slength2 (m : MethodId) (x0 : Addr) : entryFrame m #[(.ref x0)] 1 = mkF m 0 #[.val (.ref x0)] [] := by first | (simp [entryFrame, mkF, argsToLocals, Value.category]; done) | rfl
set_option maxRecDepth 65536 in
set_option maxHeartbeats 40000000 in
theorem rm_slength2 (l : Launch) (Z : State) (a0 : Array Value) (hw : ∀ d ∈ tables_1, d.before a0 Z = true) (ws : List Jvm.Cond) (xs : Addr) (xt : Addr) (kx : ClassId) (y0 : Int32) (y1 : Int32) (G1 : Int32) (h0 : Heap) (n0 : Nat) (Z0 : n0 ≤ h0.size) (H0 : Exa Z h0 xs "java/lang/String") (H1 : Fld Z h0 xs "java/lang/String" "value" "[B" (.ref xt)) (H2 : Fld Z h0 xs "java/lang/String" "coder" "B" (.int 0)) (H3 : Arv Z h0 xt kx .byte (2 : Int32) [(.int y0), (.int y1)] (.int (0 : Int32))) (CS : Sta Z Z.heap "java/lang/String" "COMPACT_STRINGS" "Z" (.int G1)) (CSn : ¬ (G1 = (0 : Int32))) (O0 : Old Z n0 h0) :
    MetFree l (⟨"java/lang/String", "length", "()I"⟩ : MethodName) (head1 (Jvm.Cond.code (⟨"java/lang/String", "length", "()I"⟩ : MethodName) jdk_42_method_54_code 1 (some .int) :: ws) ({ frames := 1, cells := 0, slots := 0, locals := 13 } : Room)) (fun a U => a = #[(.ref xs)] ∧ Z.Warmed39 U.vm ∧ U.heap = h0) (fun _ _ _ _ _ => True) (fun _ U o U' => ∃ v L, o = .returned v ∧ Q_slength2 Z xs xt kx y0 y1 G1 h0 n0 v U'.heap L ∧ FrameEnd U o U' L ({ frames := 1, cells := 0, slots := 0, locals := 13 } : Room).cells ({ frames := 1, cells := 0, slots := 0, locals := 13 } : Room).slots) := by
  refine MetFree.of_bodySF (plainFor_of_name pn_java_lang_String) hisR ?_
  intro p e s m args below meth c s₁ Bd hml0 hP hK
  obtain ⟨rfl, hZ, hh⟩ := hP
  have hx := Bd.exec
  have hby := Bd.bytes
  have hml : c.maxLocals = 1 := hml0
  have hown : s.vm.findClass "java/lang/String" = some m.cls := findClass_of_methodNamed Bd.named
  have hnm := (name_of_methodNamed Bd.named Bd.method).1
  have X0 : Stand p l e ({ frames := 1, cells := 0, slots := 0, locals := 13 } : Room) s m #[(.ref xs)] below meth c s₁ [] 0 0 := Stand.of_body Bd
  have e0 : s₁.heap = h0 := by rw [← hh, Bd.state]; rfl
  have N0 := Fr.nil n0
  refine go_st (fun t k => castTop (ef_slength2 m xs) k) ?_
  show Go _ _ _ _ (s₁.setTop (mkF m 0 #[rv xs] []))
  refine go_st (fun t k => XS.aloadN X0.here hx rfl (hb hby d17_0) rfl rfl k) ?_
  show Go _ _ _ _ (s₁.setTop (mkF m 1 #[rv xs] [(.ref xs)]))
  obtain ⟨T1, X1, e1, st1⟩ := getF X0 hx hZ hown (host := "") (Or.inl (w36 hw)) Via.refl e0 H1 (g := (mkF m 1 #[rv xs] [(.ref xs)])) rfl rfl (hb hby d17_1)
  refine go_st (fun t k => st1 t k) ?_
  show Go _ _ _ _ (T1.setTop (mkF m 4 #[rv xs] [(.ref xt)]))
  obtain ⟨zc2, zA2, zq2, zS2, zN2, zH2, zG2⟩ := id H3
  refine go_st (fun t k => X1.arraylength hx (by rw [e1]; exact zA2.1) (State.isArrayOf_alike hZ.alike zA2.2.1) (g := (mkF m 4 #[rv xs] [(.ref xt)])) rfl rfl (hb hby d17_4) t k) ?_
  rw [len_of zS2 zN2]
  show Go _ _ _ _ (T1.setTop (mkF m 5 #[rv xs] [(.int 2)]))
  refine go_st (fun t k => XS.aloadN X1.here hx rfl (hb hby d17_5) rfl rfl k) ?_
  show Go _ _ _ _ (T1.setTop (mkF m 6 #[rv xs] [(.ref xs), (.int 2)]))
  obtain ⟨cq3, kq3, q3a, q3b, q3c⟩ := isOf hZ e1 H0
  obtain ⟨_, _, ⟨T3, L3, kk3, nn3⟩, -, X3, ⟨Lc3, hQ3, lq3, yq3, zq3⟩, st3⟩ := X1.virtualBack hx (y := (⟨"java/lang/String", "coder", "()B"⟩ : MethodName)) (z := (⟨"java/lang/String", "coder", "()B"⟩ : MethodName)) hown (mvT hZ (w164 hw)) (mvT hZ (w165 hw)) (nf_same (y := (⟨"java/lang/String", "coder", "()B"⟩ : MethodName)) (y' := (⟨"java/lang/String", "equals", "(Ljava/lang/Object;)Z"⟩ : MethodName)) (a0 := #[]) rfl (mvT hZ (w75 hw)) (notFace_of_selects (args := #[]) (mvT hZ (w76 hw)))) (mvT hZ (w167 hw)) (mvT hZ (w166 hw)) (by decide) (backOf (W := 1) (rm_cod l Z a0 hw [] xs G1 h0 n0 (Nat.le_trans Z0 (Nat.le_refl _)) H2 CS CSn O0) hZ (w168 hw) (w11 hw) (by decide) (by decide)) q3a q3c (g := (mkF m 6 #[rv xs] [(.ref xs), (.int 2)])) rfl (by rw [hml]; rfl) (Steps.refl _) (argsL := []) (rest := [(.int 2)]) (lenOf pd_4 rfl) rfl (by show 2 * 0 + _ ≤ _; exact Nat.le_of_eq rfl) (hb hby d17_6) (fun _ _ => ⟨rfl, e1, (by decide : 0 + 0 ≤ _), (by decide : 0 + 0 ≤ _)⟩)
  dsimp only [Pt.U, Pt.locs, Pt.cells, Pt.slots] at X3 lq3 yq3 zq3 st3 hQ3
  obtain rfl : kk3 = 0 := yq3
  obtain rfl : nn3 = 0 := zq3
  obtain ⟨h3, e3⟩ : ∃ z, T3.heap = z := ⟨_, rfl⟩
  rw [e3] at hQ3
  obtain ⟨rfl, N3q, he3⟩ := hQ3
  have N3 : Fr n0 L3 := by rw [lq3]; exact Fr.app N0 N3q
  rw [he3] at e3
  refine go_tr st3 ?_
  show Go _ _ _ _ (T3.setTop (mkF m 9 #[rv xs] [(.int 0), (.int 2)]))
  refine go_st (fun t k => XS.ishr X3.here hx rfl (hb hby d17_9) rfl k) ?_
  rw [show ((2 : Int32) >>> ((0 : Int32) &&& 31)) = (2 : Int32) from by decide]
  show Go _ _ _ _ (T3.setTop (mkF m 10 #[rv xs] [(.int 2)]))
  obtain ⟨fs, hr, hrun, hended, hW, hsame⟩ := X3.leave (v := some (.int 2)) (fun h => by rw [Bd.returns] at h; cases h)
  refine ⟨_, _, ?_, hrun, hended, _, _, rfl, ?_, ⟨_, rfl⟩, hW, hsame.mono (by decide) (by decide)⟩
  · exact retI X3 hx Bd.returns (hb hby d17_10) hr
  · show Q_slength2 _ _ _ _ _ _ _ _ _ _ T3.heap _
    rw [e3]
    exact ⟨rfl, N3, rfl⟩
def Q_ens2 (Z : State) (sb : Addr) (va : Addr) (kv : ClassId) (u0 : Int32) (u1 : Int32) (u2 : Int32) (u3 : Int32) (h0 : Heap) (n0 : Nat) (vR : Option Value) (h : Heap) (L : List Loc) : Prop := vR = none ∧ Fr n0 L ∧ h = h0
theorem ef_ens2 (m : MethodId) (x0 : Addr) (x1 : Int32) : entryFrame m #[(.ref x0), (.int x1)] 3 = mkF m 0 #[.val (.ref x0), .val (.int x1), .unset] [] := by first | (simp [entryFrame, mkF, argsToLocals, Value.category]; done) | rfl
set_option maxRecDepth 65536 in
set_option maxHeartbeats 40000000 in
theorem rm_ens2 (l : Launch) (Z : State) (a0 : Array Value) (hw : ∀ d ∈ tables_1, d.before a0 Z = true) (ws : List Jvm.Cond) (sb : Addr) (va : Addr) (kv : ClassId) (u0 : Int32) (u1 : Int32) (u2 : Int32) (u3 : Int32) (h0 : Heap) (n0 : Nat) (Z0 : n0 ≤ h0.size) (H0 : Fld Z h0 sb "java/lang/AbstractStringBuilder" "value" "[B" (.ref va)) (H1 : Fld Z h0 sb "java/lang/AbstractStringBuilder" "coder" "B" (.int 0)) (H2 : Arv Z h0 va kv .byte (16 : Int32) [(.int u0), (.int u1), (.int u2), (.int u3)] (.int (0 : Int32))) :
    MetFree l (⟨"java/lang/AbstractStringBuilder", "ensureCapacityInternal", "(I)V"⟩ : MethodName) (head1 (Jvm.Cond.code (⟨"java/lang/AbstractStringBuilder", "ensureCapacityInternal", "(I)V"⟩ : MethodName) jdk_68_method_9_code 3 none :: ws) ({ frames := 0, cells := 0, slots := 0, locals := 0 } : Room)) (fun a U => a = #[(.ref sb), (.int 2)] ∧ Z.Warmed39 U.vm ∧ U.heap = h0) (fun _ _ _ _ _ => True) (fun _ U o U' => ∃ v L, o = .returned v ∧ Q_ens2 Z sb va kv u0 u1 u2 u3 h0 n0 v U'.heap L ∧ FrameEnd U o U' L ({ frames := 0, cells := 0, slots := 0, locals := 0 } : Room).cells ({ frames := 0, cells := 0, slots := 0, locals := 0 } : Room).slots) := by
  refine MetFree.of_bodySF (plainFor_of_name pn_java_lang_AbstractStringBuilder) hisR ?_
  intro p e s m args below meth c s₁ Bd hml0 hP hK
  obtain ⟨rfl, hZ, hh⟩ := hP
  have hx := Bd.exec
  have hby := Bd.bytes
  have hml : c.maxLocals = 3 := hml0
  have hown : s.vm.findClass "java/lang/AbstractStringBuilder" = some m.cls := findClass_of_methodNamed Bd.named
  have hnm := (name_of_methodNamed Bd.named Bd.method).1
  have X0 : Stand p l e ({ frames := 0, cells := 0, slots := 0, locals := 0 } : Room) s m #[(.ref sb), (.int 2)] below meth c s₁ [] 0 0 := Stand.of_body Bd
  have e0 : s₁.heap = h0 := by rw [← hh, Bd.state]; rfl
  have N0 := Fr.nil n0
  refine go_st (fun t k => castTop (ef_ens2 m sb (2 : Int32)) k) ?_
  show Go _ _ _ _ (s₁.setTop (mkF m 0 #[rv sb, iv 2, .unset] []))
  refine go_st (fun t k => XS.aloadN X0.here hx rfl (hb hby d19_0) rfl rfl k) ?_
  show Go _ _ _ _ (s₁.setTop (mkF m 1 #[rv sb, iv 2, .unset] [(.ref sb)]))
  obtain ⟨T1, X1, e1, st1⟩ := getF X0 hx hZ hown (host := "") (Or.inl (w145 hw)) Via.refl e0 H0 (g := (mkF m 1 #[rv sb, iv 2, .unset] [(.ref sb)])) rfl rfl (hb hby d19_1)
  refine go_st (fun t k => st1 t k) ?_
  show Go _ _ _ _ (T1.setTop (mkF m 4 #[rv sb, iv 2, .unset] [(.ref va)]))
  obtain ⟨zc2, zA2, zq2, zS2, zN2, zH2, zG2⟩ := id H2
  refine go_st (fun t k => X1.arraylength hx (by rw [e1]; exact zA2.1) (State.isArrayOf_alike hZ.alike zA2.2.1) (g := (mkF m 4 #[rv sb, iv 2, .unset] [(.ref va)])) rfl rfl (hb hby d19_4) t k) ?_
  rw [len_of zS2 zN2]
  show Go _ _ _ _ (T1.setTop (mkF m 5 #[rv sb, iv 2, .unset] [(.int 16)]))
  refine go_st (fun t k => XS.aloadN X1.here hx rfl (hb hby d19_5) rfl rfl k) ?_
  show Go _ _ _ _ (T1.setTop (mkF m 6 #[rv sb, iv 2, .unset] [(.ref sb), (.int 16)]))
  obtain ⟨T3, X3, e3, st3⟩ := getF X1 hx hZ hown (host := "") (Or.inl (w147 hw)) Via.refl e1 H1 (g := (mkF m 6 #[rv sb, iv 2, .unset] [(.ref sb), (.int 16)])) rfl rfl (hb hby d19_6)
  refine go_st (fun t k => st3 t k) ?_
  show Go _ _ _ _ (T3.setTop (mkF m 9 #[rv sb, iv 2, .unset] [(.int 0), (.int 16)]))
  refine go_st (fun t k => XS.ishr X3.here hx rfl (hb hby d19_9) rfl k) ?_
  rw [show ((16 : Int32) >>> ((0 : Int32) &&& 31)) = (16 : Int32) from by decide]
  show Go _ _ _ _ (T3.setTop (mkF m 10 #[rv sb, iv 2, .unset] [(.int 16)]))
  refine go_st (fun t k => XS.istoreN X3.here hx rfl (hb hby d19_10) rfl (l' := #[rv sb, iv 2, iv 16]) rfl k) ?_
  show Go _ _ _ _ (T3.setTop (mkF m 11 #[rv sb, iv 2, iv 16] []))
  refine go_st (fun t k => XS.iloadN X3.here hx rfl (hb hby d19_11) rfl k) ?_
  show Go _ _ _ _ (T3.setTop (mkF m 12 #[rv sb, iv 2, iv 16] [(.int 2)]))
  refine go_st (fun t k => XS.iloadN X3.here hx rfl (hb hby d19_12) rfl k) ?_
  show Go _ _ _ _ (T3.setTop (mkF m 13 #[rv sb, iv 2, iv 16] [(.int 16), (.int 2)]))
  refine go_st (fun t k => XS.isub X3.here hx rfl (hb hby d19_13) rfl k) ?_
  rw [show ((2 : Int32) - (16 : Int32)) = (-14 : Int32) from by decide]
  show Go _ _ _ _ (T3.setTop (mkF m 14 #[rv sb, iv 2, iv 16] [(.int (-14))]))
  refine go_st (fun t k => XS.ifYes X3.here hx rfl (pc0 := 14) (pc' := 38) rfl (hb hby d19_14) rfl ((if0 _ _).trans (flt ((by decide) : ¬ ((0 : Int32) < (-14 : Int32)))).2.2.2) (by decide) (by decide) k) ?_
  show Go _ _ _ _ (T3.setTop (mkF m 38 #[rv sb, iv 2, iv 16] []))
  obtain ⟨fs, hr, hrun, hended, hW, hsame⟩ := X3.leave (v := none) (fun _ => rfl)
  refine ⟨_, _, ?_, hrun, hended, _, _, rfl, ?_, ⟨_, rfl⟩, hW, hsame.mono (by decide) (by decide)⟩
  · exact X3.returnOut hx Bd.returns (hb hby d19_38) hr
  · show Q_ens2 _ _ _ _ _ _ _ _ _ _ _ T3.heap _
    rw [e3]
    exact ⟨rfl, N0, rfl⟩
def Q_inf (Z : State) (sb : Addr) (xs : Addr) (G1 : Int32) (h0 : Heap) (n0 : Nat) (vR : Option Value) (h : Heap) (L : List Loc) : Prop := vR = none ∧ Fr n0 L ∧ h = h0
theorem ef_inf (m : MethodId) (x0 : Addr) (x1 : Addr) : entryFrame m #[(.ref x0), (.ref x1)] 2 = mkF m 0 #[.val (.ref x0), .val (.ref x1)] [] := by first | (simp [entryFrame, mkF, argsToLocals, Value.category]; done) | rfl
set_option maxRecDepth 65536 in
set_option maxHeartbeats 40000000 in
theorem rm_inf (l : Launch) (Z : State) (a0 : Array Value) (hw : ∀ d ∈ tables_1, d.before a0 Z = true) (ws : List Jvm.Cond) (sb : Addr) (xs : Addr) (G1 : Int32) (h0 : Heap) (n0 : Nat) (Z0 : n0 ≤ h0.size) (H0 : Fld Z h0 sb "java/lang/AbstractStringBuilder" "coder" "B" (.int 0)) (H1 : Exa Z h0 xs "java/lang/String") (H2 : Fld Z h0 xs "java/lang/String" "coder" "B" (.int 0)) (CS : Sta Z Z.heap "java/lang/String" "COMPACT_STRINGS" "Z" (.int G1)) (CSn : ¬ (G1 = (0 : Int32))) (O0 : Old Z n0 h0) :
    MetFree l (⟨"java/lang/AbstractStringBuilder", "inflateIfNeededFor", "(Ljava/lang/String;)V"⟩ : MethodName) (head1 (Jvm.Cond.code (⟨"java/lang/AbstractStringBuilder", "inflateIfNeededFor", "(Ljava/lang/String;)V"⟩ : MethodName) jdk_68_method_71_code 2 none :: ws) ({ frames := 1, cells := 0, slots := 0, locals := 13 } : Room)) (fun a U => a = #[(.ref sb), (.ref xs)] ∧ Z.Warmed39 U.vm ∧ U.heap = h0) (fun _ _ _ _ _ => True) (fun _ U o U' => ∃ v L, o = .returned v ∧ Q_inf Z sb xs G1 h0 n0 v U'.heap L ∧ FrameEnd U o U' L ({ frames := 1, cells := 0, slots := 0, locals := 13 } : Room).cells ({ frames := 1, cells := 0, slots := 0, locals := 13 } : Room).slots) := by
  refine MetFree.of_bodySF (plainFor_of_name pn_java_lang_AbstractStringBuilder) hisR ?_
  intro p e s m args below meth c s₁ Bd hml0 hP hK
  obtain ⟨rfl, hZ, hh⟩ := hP
  have hx := Bd.exec
  have hby := Bd.bytes
  have hml : c.maxLocals = 2 := hml0
  have hown : s.vm.findClass "java/lang/AbstractStringBuilder" = some m.cls := findClass_of_methodNamed Bd.named
  have hnm := (name_of_methodNamed Bd.named Bd.method).1
  have X0 : Stand p l e ({ frames := 1, cells := 0, slots := 0, locals := 13 } : Room) s m #[(.ref sb), (.ref xs)] below meth c s₁ [] 0 0 := Stand.of_body Bd
  have e0 : s₁.heap = h0 := by rw [← hh, Bd.state]; rfl
  have N0 := Fr.nil n0
  refine go_st (fun t k => castTop (ef_inf m sb xs) k) ?_
  show Go _ _ _ _ (s₁.setTop (mkF m 0 #[rv sb, rv xs] []))
  obtain ⟨T1, X1, e1, st1⟩ := getS2 X0 hx hZ hown (host := "") (Or.inl (w144 hw)) Via.refl e0 (Sta.ext O0.2 CS) (g := (mkF m 0 #[rv sb, rv xs] [])) rfl (hb hby d21_0)
  refine go_st (fun t k => st1 t k) ?_
  show Go _ _ _ _ (T1.setTop (mkF m 3 #[rv sb, rv xs] [(.int G1)]))
  refine go_st (fun t k => XS.ifNo X1.here hx rfl (hb hby d21_3) rfl ((if0 _ _).trans (feq (CSn : ¬ (G1 = (0 : Int32)))).1) k) ?_
  show Go _ _ _ _ (T1.setTop (mkF m 6 #[rv sb, rv xs] []))
  refine go_st (fun t k => XS.aloadN X1.here hx rfl (hb hby d21_6) rfl rfl k) ?_
  show Go _ _ _ _ (T1.setTop (mkF m 7 #[rv sb, rv xs] [(.ref sb)]))
  obtain ⟨T2, X2, e2, st2⟩ := getF X1 hx hZ hown (host := "") (Or.inl (w147 hw)) Via.refl e1 H0 (g := (mkF m 7 #[rv sb, rv xs] [(.ref sb)])) rfl rfl (hb hby d21_7)
  refine go_st (fun t k => st2 t k) ?_
  show Go _ _ _ _ (T2.setTop (mkF m 10 #[rv sb, rv xs] [(.int 0)]))
  refine go_st (fun t k => XS.aloadN X2.here hx rfl (hb hby d21_10) rfl rfl k) ?_
  show Go _ _ _ _ (T2.setTop (mkF m 11 #[rv sb, rv xs] [(.ref xs), (.int 0)]))
  obtain ⟨cq3, kq3, q3a, q3b, q3c⟩ := isOf hZ e2 H1
  obtain ⟨_, _, ⟨T3, L3, kk3, nn3⟩, -, X3, ⟨Lc3, hQ3, lq3, yq3, zq3⟩, st3⟩ := X2.virtualBack hx (y := (⟨"java/lang/String", "coder", "()B"⟩ : MethodName)) (z := (⟨"java/lang/String", "coder", "()B"⟩ : MethodName)) hown (mvT hZ (w186 hw)) (mvT hZ (w165 hw)) (nf_same (y := (⟨"java/lang/String", "coder", "()B"⟩ : MethodName)) (y' := (⟨"java/lang/String", "equals", "(Ljava/lang/Object;)Z"⟩ : MethodName)) (a0 := #[]) rfl (mvT hZ (w75 hw)) (notFace_of_selects (args := #[]) (mvT hZ (w76 hw)))) (mvT hZ (w167 hw)) (mvT hZ (w166 hw)) (by decide) (backOf (W := 1) (rm_cod l Z a0 hw [] xs G1 h0 n0 (Nat.le_trans Z0 (Nat.le_refl _)) H2 CS CSn O0) hZ (w168 hw) (w11 hw) (by decide) (by decide)) q3a q3c (g := (mkF m 11 #[rv sb, rv xs] [(.ref xs), (.int 0)])) rfl (by rw [hml]; rfl) (Steps.refl _) (argsL := []) (rest := [(.int 0)]) (lenOf pd_4 rfl) rfl (by show 2 * 0 + _ ≤ _; exact Nat.le_of_eq rfl) (hb hby d21_11) (fun _ _ => ⟨rfl, e2, (by decide : 0 + 0 ≤ _), (by decide : 0 + 0 ≤ _)⟩)
  dsimp only [Pt.U, Pt.locs, Pt.cells, Pt.slots] at X3 lq3 yq3 zq3 st3 hQ3
  obtain rfl : kk3 = 0 := yq3
  obtain rfl : nn3 = 0 := zq3
  obtain ⟨h3, e3⟩ : ∃ z, T3.heap = z := ⟨_, rfl⟩
  rw [e3] at hQ3
  obtain ⟨rfl, N3q, he3⟩ := hQ3
  have N3 : Fr n0 L3 := by rw [lq3]; exact Fr.app N0 N3q
  rw [he3] at e3
  refine go_tr st3 ?_
  show Go _ _ _ _ (T3.setTop (mkF m 14 #[rv sb, rv xs] [(.int 0), (.int 0)]))
  refine go_st (fun t k => XS.icmpYes X3.here hx rfl (pc0 := 14) (pc' := 21) rfl (hb hby d21_14) rfl (teq ((by decide) : (0 : Int32) = (0 : Int32))).1 (by decide) (by decide) k) ?_
  show Go _ _ _ _ (T3.setTop (mkF m 21 #[rv sb, rv xs] []))
  obtain ⟨fs, hr, hrun, hended, hW, hsame⟩ := X3.leave (v := none) (fun _ => rfl)
  refine ⟨_, _, ?_, hrun, hended, _, _, rfl, ?_, ⟨_, rfl⟩, hW, hsame.mono (by decide) (by decide)⟩
  · exact X3.returnOut hx Bd.returns (hb hby d21_21) hr
  · show Q_inf _ _ _ _ _ _ _ T3.heap _
    rw [e3]
    exact ⟨rfl, N3, rfl⟩
def Q_gby0_2 (Z : State) (xs : Addr) (xt : Addr) (kx : ClassId) (y0 : Int32) (y1 : Int32) (va : Addr) (kv : ClassId) (u0 : Int32) (u1 : Int32) (u2 : Int32) (u3 : Int32) (G1 : Int32) (h0 : Heap) (n0 : Nat) (vR : Option Value) (h : Heap) (L : List Loc) : Prop := vR = none ∧ Fr n0 L ∧ Keep h0 h [va] ∧ (Arv Z h va kv .byte (16 : Int32) [(.int y0), (.int y1), (.int u2), (.int u3)] (.int (0 : Int32)))
theorem ef_gby0_2 (m : MethodId) (x0 : Addr) (x1 : Addr) (x2 : Int32) (x3 : Int32) : entryFrame m #[(.ref x0), (.ref x1), (.int x2), (.int x3)] 4 = mkF m 0 #[.val (.ref x0), .val (.ref x1), .val (.int x2), .val (.int x3)] [] := by first | (simp [entryFrame, mkF, argsToLocals, Value.category]; done) | rfl
set_option maxRecDepth 65536 in
set_option maxHeartbeats 40000000 in
theorem rm_gby0_2 (l : Launch) (Z : State) (a0 : Array Value) (hw : ∀ d ∈ tables_1, d.before a0 Z = true) (ws : List Jvm.Cond) (xs : Addr) (xt : Addr) (kx : ClassId) (y0 : Int32) (y1 : Int32) (va : Addr) (kv : ClassId) (u0 : Int32) (u1 : Int32) (u2 : Int32) (u3 : Int32) (G1 : Int32) (h0 : Heap) (n0 : Nat) (Z0 : n0 ≤ h0.size) (H0 : Exa Z h0 xs "java/lang/String") (H1 : Fld Z h0 xs "java/lang/String" "value" "[B" (.ref xt)) (H2 : Fld Z h0 xs "java/lang/String" "coder" "B" (.int 0)) (H3 : Arv Z h0 xt kx .byte (2 : Int32) [(.int y0), (.int y1)] (.int (0 : Int32))) (H4 : Arv Z h0 va kv .byte (16 : Int32) [(.int u0), (.int u1), (.int u2), (.int u3)] (.int (0 : Int32))) (g_va : n0 ≤ va) (CS : Sta Z Z.heap "java/lang/String" "COMPACT_STRINGS" "Z" (.int G1)) (CSn : ¬ (G1 = (0 : Int32))) (O0 : Old Z n0 h0) :
    MetFree l (⟨"java/lang/String", "getBytes", "([BIB)V"⟩ : MethodName) (head1 (Jvm.Cond.code (⟨"java/lang/String", "getBytes", "([BIB)V"⟩ : MethodName) jdk_42_method_147_code 4 none :: ws) ({ frames := 1, cells := 0, slots := 0, locals := 18 } : Room)) (fun a U => a = #[(.ref xs), (.ref va), (.int 0), (.int 0)] ∧ Z.Warmed39 U.vm ∧ U.heap = h0) (fun _ _ _ _ _ => True) (fun _ U o U' => ∃ v L, o = .returned v ∧ Q_gby0_2 Z xs xt kx y0 y1 va kv u0 u1 u2 u3 G1 h0 n0 v U'.heap L ∧ FrameEnd U o U' L ({ frames := 1, cells := 0, slots := 0, locals := 18 } : Room).cells ({ frames := 1, cells := 0, slots := 0, locals := 18 } : Room).slots) := by
  refine MetFree.of_bodySF (plainFor_of_name pn_java_lang_String) hisR ?_
  intro p e s m args below meth c s₁ Bd hml0 hP hK
  obtain ⟨rfl, hZ, hh⟩ := hP
  have hx := Bd.exec
  have hby := Bd.bytes
  have hml : c.maxLocals = 4 := hml0
  have hown : s.vm.findClass "java/lang/String" = some m.cls := findClass_of_methodNamed Bd.named
  have hnm := (name_of_methodNamed Bd.named Bd.method).1
  have X0 : Stand p l e ({ frames := 1, cells := 0, slots := 0, locals := 18 } : Room) s m #[(.ref xs), (.ref va), (.int 0), (.int 0)] below meth c s₁ [] 0 0 := Stand.of_body Bd
  have e0 : s₁.heap = h0 := by rw [← hh, Bd.state]; rfl
  have N0 := Fr.nil n0
  refine go_st (fun t k => castTop (ef_gby0_2 m xs va (0 : Int32) (0 : Int32)) k) ?_
  show Go _ _ _ _ (s₁.setTop (mkF m 0 #[rv xs, rv va, iv 0, iv 0] []))
  refine go_st (fun t k => XS.aloadN X0.here hx rfl (hb hby d22_0) rfl rfl k) ?_
  show Go _ _ _ _ (s₁.setTop (mkF m 1 #[rv xs, rv va, iv 0, iv 0] [(.ref xs)]))
  obtain ⟨cq1, kq1, q1a, q1b, q1c⟩ := isOf hZ e0 H0
  obtain ⟨_, _, ⟨T1, L1, kk1, nn1⟩, -, X1, ⟨Lc1, hQ1, lq1, yq1, zq1⟩, st1⟩ := X0.virtualBack hx (y := (⟨"java/lang/String", "coder", "()B"⟩ : MethodName)) (z := (⟨"java/lang/String", "coder", "()B"⟩ : MethodName)) hown (mvT hZ (w164 hw)) (mvT hZ (w165 hw)) (nf_same (y := (⟨"java/lang/String", "coder", "()B"⟩ : MethodName)) (y' := (⟨"java/lang/String", "equals", "(Ljava/lang/Object;)Z"⟩ : MethodName)) (a0 := #[]) rfl (mvT hZ (w75 hw)) (notFace_of_selects (args := #[]) (mvT hZ (w76 hw)))) (mvT hZ (w167 hw)) (mvT hZ (w166 hw)) (by decide) (backOf (W := 0) (rm_cod l Z a0 hw [] xs G1 h0 n0 (Nat.le_trans Z0 (Nat.le_refl _)) H2 CS CSn O0) hZ (w168 hw) (w11 hw) (by decide) (by decide)) q1a q1c (g := (mkF m 1 #[rv xs, rv va, iv 0, iv 0] [(.ref xs)])) rfl (by rw [hml]; rfl) (Steps.refl _) (argsL := []) (rest := []) (lenOf pd_4 rfl) rfl (by show 2 * 0 + _ ≤ _; exact Nat.le_of_eq rfl) (hb hby d22_1) (fun _ _ => ⟨rfl, e0, (by decide : 0 + 0 ≤ _), (by decide : 0 + 0 ≤ _)⟩)
  dsimp only [Pt.U, Pt.locs, Pt.cells, Pt.slots] at X1 lq1 yq1 zq1 st1 hQ1
  obtain rfl : kk1 = 0 := yq1
  obtain rfl : nn1 = 0 := zq1
  obtain ⟨h1, e1⟩ : ∃ z, T1.heap = z := ⟨_, rfl⟩
  rw [e1] at hQ1
  obtain ⟨rfl, N1q, he1⟩ := hQ1
  have N1 : Fr n0 L1 := by rw [lq1]; exact Fr.app N0 N1q
  rw [he1] at e1
  refine go_tr st1 ?_
  show Go _ _ _ _ (T1.setTop (mkF m 4 #[rv xs, rv va, iv 0, iv 0] [(.int 0)]))
  refine go_st (fun t k => XS.iloadN X1.here hx rfl (hb hby d22_4) rfl k) ?_
  show Go _ _ _ _ (T1.setTop (mkF m 5 #[rv xs, rv va, iv 0, iv 0] [(.int 0), (.int 0)]))
  refine go_st (fun t k => XS.icmpNo X1.here hx rfl (hb hby d22_5) rfl (teq ((by decide) : (0 : Int32) = (0 : Int32))).2 k) ?_
  show Go _ _ _ _ (T1.setTop (mkF m 8 #[rv xs, rv va, iv 0, iv 0] []))
  refine go_st (fun t k => XS.aloadN X1.here hx rfl (hb hby d22_8) rfl rfl k) ?_
  show Go _ _ _ _ (T1.setTop (mkF m 9 #[rv xs, rv va, iv 0, iv 0] [(.ref xs)]))
  obtain ⟨T2, X2, e2, st2⟩ := getF X1 hx hZ hown (host := "") (Or.inl (w36 hw)) Via.refl e1 H1 (g := (mkF m 9 #[rv xs, rv va, iv 0, iv 0] [(.ref xs)])) rfl rfl (hb hby d22_9)
  refine go_st (fun t k => st2 t k) ?_
  show Go _ _ _ _ (T2.setTop (mkF m 12 #[rv xs, rv va, iv 0, iv 0] [(.ref xt)]))
  refine go_st (fun t k => XS.iconst X2.here hx rfl (hb hby d22_12) k) ?_
  show Go _ _ _ _ (T2.setTop (mkF m 13 #[rv xs, rv va, iv 0, iv 0] [(.int 0), (.ref xt)]))
  refine go_st (fun t k => XS.aloadN X2.here hx rfl (hb hby d22_13) rfl rfl k) ?_
  show Go _ _ _ _ (T2.setTop (mkF m 14 #[rv xs, rv va, iv 0, iv 0] [(.ref va), (.int 0), (.ref xt)]))
  refine go_st (fun t k => XS.iloadN X2.here hx rfl (hb hby d22_14) rfl k) ?_
  show Go _ _ _ _ (T2.setTop (mkF m 15 #[rv xs, rv va, iv 0, iv 0] [(.int 0), (.ref va), (.int 0), (.ref xt)]))
  refine go_st (fun t k => XS.iloadN X2.here hx rfl (hb hby d22_15) rfl k) ?_
  show Go _ _ _ _ (T2.setTop (mkF m 16 #[rv xs, rv va, iv 0, iv 0] [(.int 0), (.int 0), (.ref va), (.int 0), (.ref xt)]))
  refine go_st (fun t k => XS.ishl X2.here hx rfl (hb hby d22_16) rfl k) ?_
  rw [show ((0 : Int32) <<< ((0 : Int32) &&& 31)) = (0 : Int32) from by decide]
  show Go _ _ _ _ (T2.setTop (mkF m 17 #[rv xs, rv va, iv 0, iv 0] [(.int 0), (.ref va), (.int 0), (.ref xt)]))
  refine go_st (fun t k => XS.aloadN X2.here hx rfl (hb hby d22_17) rfl rfl k) ?_
  show Go _ _ _ _ (T2.setTop (mkF m 18 #[rv xs, rv va, iv 0, iv 0] [(.ref xs), (.int 0), (.ref va), (.int 0), (.ref xt)]))
  obtain ⟨T3, X3, e3, st3⟩ := getF X2 hx hZ hown (host := "") (Or.inl (w36 hw)) Via.refl e2 H1 (g := (mkF m 18 #[rv xs, rv va, iv 0, iv 0] [(.ref xs), (.int 0), (.ref va), (.int 0), (.ref xt)])) rfl rfl (hb hby d22_18)
  refine go_st (fun t k => st3 t k) ?_
  show Go _ _ _ _ (T3.setTop (mkF m 21 #[rv xs, rv va, iv 0, iv 0] [(.ref xt), (.int 0), (.ref va), (.int 0), (.ref xt)]))
  obtain ⟨zc4, zA4, zq4, zS4, zN4, zH4, zG4⟩ := id H3
  refine go_st (fun t k => X3.arraylength hx (by rw [e3]; exact zA4.1) (State.isArrayOf_alike hZ.alike zA4.2.1) (g := (mkF m 21 #[rv xs, rv va, iv 0, iv 0] [(.ref xt), (.int 0), (.ref va), (.int 0), (.ref xt)])) rfl rfl (hb hby d22_21) t k) ?_
  rw [len_of zS4 zN4]
  show Go _ _ _ _ (T3.setTop (mkF m 22 #[rv xs, rv va, iv 0, iv 0] [(.int 2), (.int 0), (.ref va), (.int 0), (.ref xt)]))
  obtain ⟨T5, h5, L5, X5, e5, N5, K5, A5, st5⟩ := cpA X3 hx hZ hown (w192 hw) (w195 hw) (w193 hw) (w194 hw) e3 H3 H4 (Or.inl ⟨rfl, rfl⟩) (sp := (0 : Int32)) (dp := (0 : Int32)) (nn := (2 : Int32)) (us := [(.int y0), (.int y1)]) (by decide) (by decide) (by decide) (by decide) (by decide) rfl (Nat.le_of_ble_eq_true rfl) N1 g_va (g := (mkF m 22 #[rv xs, rv va, iv 0, iv 0] [(.int 2), (.int 0), (.ref va), (.int 0), (.ref xt)])) rfl (by rw [hml]; rfl) rfl (hb hby d22_22) (by decide) (W := 0) (by show 2 * 0 + _ ≤ _; exact Nat.le_of_eq rfl) (by decide)
  have f6 : Arv Z h5 va kv .byte (16 : Int32) [(.int y0), (.int y1), (.int u2), (.int u3)] (.int (0 : Int32)) := A5
  refine go_st (fun t k => st5 t k) ?_
  show Go _ _ _ _ (T5.setTop (mkF m 25 #[rv xs, rv va, iv 0, iv 0] []))
  refine go_st (fun t k => XS.goto X5.here hx rfl (pc0 := 25) (pc' := 43) rfl (hb hby d22_25) (by decide) (by decide) k) ?_
  show Go _ _ _ _ (T5.setTop (mkF m 43 #[rv xs, rv va, iv 0, iv 0] []))
  have ke7 : Keep h0 h5 [va] := (Keep.trans (Keep.refl h0 [va]) K5 (allS (Or.inl (List.mem_of_getElem? (i := 0) rfl)) all0))
  obtain ⟨fs, hr, hrun, hended, hW, hsame⟩ := X5.leave (v := none) (fun _ => rfl)
  refine ⟨_, _, ?_, hrun, hended, _, _, rfl, ?_, ⟨_, rfl⟩, hW, hsame.mono (by decide) (by decide)⟩
  · exact X5.returnOut hx Bd.returns (hb hby d22_43) hr
  · show Q_gby0_2 _ _ _ _ _ _ _ _ _ _ _ _ _ _ _ _ T5.heap _
    rw [e5]
    exact ⟨rfl, N5, ke7, f6⟩
def Q_psa0_2 (Z : State) (xs : Addr) (xt : Addr) (kx : ClassId) (y0 : Int32) (y1 : Int32) (sb : Addr) (va : Addr) (kv : ClassId) (u0 : Int32) (u1 : Int32) (u2 : Int32) (u3 : Int32) (G1 : Int32) (h0 : Heap) (n0 : Nat) (vR : Option Value) (h : Heap) (L : List Loc) : Prop := vR = none ∧ Fr n0 L ∧ Keep h0 h [va] ∧ (Arv Z h va kv .byte (16 : Int32) [(.int y0), (.int y1), (.int u2), (.int u3)] (.int (0 : Int32)))
theorem ef_psa0_2 (m : MethodId) (x0 : Addr) (x1 : Int32) (x2 : Addr) : entryFrame m #[(.ref x0), (.int x1), (.ref x2)] 3 = mkF m 0 #[.val (.ref x0), .val (.int x1), .val (.ref x2)] [] := by first | (simp [entryFrame, mkF, argsToLocals, Value.category]; done) | rfl
set_option maxRecDepth 65536 in
set_option maxHeartbeats 40000000 in
theorem rm_psa0_2 (l : Launch) (Z : State) (a0 : Array Value) (hw : ∀ d ∈ tables_1, d.before a0 Z = true) (ws : List Jvm.Cond) (xs : Addr) (xt : Addr) (kx : ClassId) (y0 : Int32) (y1 : Int32) (sb : Addr) (va : Addr) (kv : ClassId) (u0 : Int32) (u1 : Int32) (u2 : Int32) (u3 : Int32) (G1 : Int32) (h0 : Heap) (n0 : Nat) (Z0 : n0 ≤ h0.size) (H0 : Exa Z h0 xs "java/lang/String") (H1 : Fld Z h0 xs "java/lang/String" "value" "[B" (.ref xt)) (H2 : Fld Z h0 xs "java/lang/String" "coder" "B" (.int 0)) (H3 : Arv Z h0 xt kx .byte (2 : Int32) [(.int y0), (.int y1)] (.int (0 : Int32))) (H4 : Exa Z h0 sb "java/lang/StringBuilder") (H5 : Fld Z h0 sb "java/lang/AbstractStringBuilder" "value" "[B" (.ref va)) (H6 : Fld Z h0 sb "java/lang/AbstractStringBuilder" "coder" "B" (.int 0)) (H7 : Fld Z h0 sb "java/lang/AbstractStringBuilder" "count" "I" (.int 0)) (H8 : Arv Z h0 va kv .byte (16 : Int32) [(.int u0), (.int u1), (.int u2), (.int u3)] (.int (0 : Int32))) (g_sb : n0 ≤ sb) (g_va : n0 ≤ va) (CS : Sta Z Z.heap "java/lang/String" "COMPACT_STRINGS" "Z" (.int G1)) (CSn : ¬ (G1 = (0 : Int32))) (O0 : Old Z n0 h0) :
    MetFree l (⟨"java/lang/AbstractStringBuilder", "putStringAt", "(ILjava/lang/String;)V"⟩ : MethodName) (head1 (Jvm.Cond.code (⟨"java/lang/AbstractStringBuilder", "putStringAt", "(ILjava/lang/String;)V"⟩ : MethodName) jdk_68_method_73_code 3 none :: ws) ({ frames := 2, cells := 0, slots := 0, locals := 33 } : Room)) (fun a U => a = #[(.ref sb), (.int 0), (.ref xs)] ∧ Z.Warmed39 U.vm ∧ U.heap = h0) (fun _ _ _ _ _ => True) (fun _ U o U' => ∃ v L, o = .returned v ∧ Q_psa0_2 Z xs xt kx y0 y1 sb va kv u0 u1 u2 u3 G1 h0 n0 v U'.heap L ∧ FrameEnd U o U' L ({ frames := 2, cells := 0, slots := 0, locals := 33 } : Room).cells ({ frames := 2, cells := 0, slots := 0, locals := 33 } : Room).slots) := by
  refine MetFree.of_bodySF (plainFor_of_name pn_java_lang_AbstractStringBuilder) hisR ?_
  intro p e s m args below meth c s₁ Bd hml0 hP hK
  obtain ⟨rfl, hZ, hh⟩ := hP
  have hx := Bd.exec
  have hby := Bd.bytes
  have hml : c.maxLocals = 3 := hml0
  have hown : s.vm.findClass "java/lang/AbstractStringBuilder" = some m.cls := findClass_of_methodNamed Bd.named
  have hnm := (name_of_methodNamed Bd.named Bd.method).1
  have X0 : Stand p l e ({ frames := 2, cells := 0, slots := 0, locals := 33 } : Room) s m #[(.ref sb), (.int 0), (.ref xs)] below meth c s₁ [] 0 0 := Stand.of_body Bd
  have e0 : s₁.heap = h0 := by rw [← hh, Bd.state]; rfl
  have N0 := Fr.nil n0
  refine go_st (fun t k => castTop (ef_psa0_2 m sb (0 : Int32) xs) k) ?_
  show Go _ _ _ _ (s₁.setTop (mkF m 0 #[rv sb, iv 0, rv xs] []))
  refine go_st (fun t k => XS.aloadN X0.here hx rfl (hb hby d20_0) rfl rfl k) ?_
  show Go _ _ _ _ (s₁.setTop (mkF m 1 #[rv sb, iv 0, rv xs] [(.ref sb)]))
  refine go_st (fun t k => XS.aloadN X0.here hx rfl (hb hby d20_1) rfl rfl k) ?_
  show Go _ _ _ _ (s₁.setTop (mkF m 2 #[rv sb, iv 0, rv xs] [(.ref xs), (.ref sb)]))
  obtain ⟨cq1, q1, q1'⟩ := H4.cell
  obtain ⟨_, _, ⟨T1, L1, kk1, nn1⟩, -, X1, ⟨Lc1, hQ1, lq1, yq1, zq1⟩, st1⟩ := X0.privateBack hx (y := (⟨"java/lang/AbstractStringBuilder", "inflateIfNeededFor", "(Ljava/lang/String;)V"⟩ : MethodName)) hown (mvT hZ (w181 hw)) (mvT hZ (w182 hw)) (mvT hZ (sel_priv (w183 hw) (w182 hw) (nf_same (y := (⟨"java/lang/AbstractStringBuilder", "inflateIfNeededFor", "(Ljava/lang/String;)V"⟩ : MethodName)) (y' := (⟨"java/lang/AbstractStringBuilder", "ensureCapacityInternal", "(I)V"⟩ : MethodName)) rfl (w172 hw) (notFace_of_selects (w174 hw))) (by decide))) (Cond.privateMethod_at (mvP hZ (w183 hw) (args := #[]))) (mvT hZ (w185 hw)) (by decide) (backOf (W := 0) (rm_inf l Z a0 hw [] sb xs G1 h0 n0 (Nat.le_trans Z0 (Nat.le_refl _)) H6 H0 H2 CS CSn O0) hZ (w185 hw) (w141 hw) (by decide) (by decide)) (g := (mkF m 2 #[rv sb, iv 0, rv xs] [(.ref xs), (.ref sb)])) rfl (by rw [hml]; rfl) (Steps.refl _) (a := sb) (by rw [e0]; exact q1) q1' (argsL := [(.ref xs)]) (rest := []) (lenOf pd_6 rfl) rfl (by show 2 * 0 + _ ≤ _; exact Nat.le_of_eq rfl) (hb hby d20_2) (fun _ _ => ⟨rfl, e0, (by decide : 0 + 0 ≤ _), (by decide : 0 + 0 ≤ _)⟩)
  dsimp only [Pt.U, Pt.locs, Pt.cells, Pt.slots] at X1 lq1 yq1 zq1 st1 hQ1
  obtain rfl : kk1 = 0 := yq1
  obtain rfl : nn1 = 0 := zq1
  obtain ⟨h1, e1⟩ : ∃ z, T1.heap = z := ⟨_, rfl⟩
  rw [e1] at hQ1
  obtain ⟨rfl, N1q, he1⟩ := hQ1
  have N1 : Fr n0 L1 := by rw [lq1]; exact Fr.app N0 N1q
  rw [he1] at e1
  refine go_tr st1 ?_
  show Go _ _ _ _ (T1.setTop (mkF m 5 #[rv sb, iv 0, rv xs] []))
  refine go_st (fun t k => XS.aloadN X1.here hx rfl (hb hby d20_5) rfl rfl k) ?_
  show Go _ _ _ _ (T1.setTop (mkF m 6 #[rv sb, iv 0, rv xs] [(.ref xs)]))
  refine go_st (fun t k => XS.aloadN X1.here hx rfl (hb hby d20_6) rfl rfl k) ?_
  show Go _ _ _ _ (T1.setTop (mkF m 7 #[rv sb, iv 0, rv xs] [(.ref sb), (.ref xs)]))
  obtain ⟨T2, X2, e2, st2⟩ := getF X1 hx hZ hown (host := "") (Or.inl (w145 hw)) Via.refl e1 H5 (g := (mkF m 7 #[rv sb, iv 0, rv xs] [(.ref sb), (.ref xs)])) rfl rfl (hb hby d20_7)
  refine go_st (fun t k => st2 t k) ?_
  show Go _ _ _ _ (T2.setTop (mkF m 10 #[rv sb, iv 0, rv xs] [(.ref va), (.ref xs)]))
  refine go_st (fun t k => XS.iloadN X2.here hx rfl (hb hby d20_10) rfl k) ?_
  show Go _ _ _ _ (T2.setTop (mkF m 11 #[rv sb, iv 0, rv xs] [(.int 0), (.ref va), (.ref xs)]))
  refine go_st (fun t k => XS.aloadN X2.here hx rfl (hb hby d20_11) rfl rfl k) ?_
  show Go _ _ _ _ (T2.setTop (mkF m 12 #[rv sb, iv 0, rv xs] [(.ref sb), (.int 0), (.ref va), (.ref xs)]))
  obtain ⟨T3, X3, e3, st3⟩ := getF X2 hx hZ hown (host := "") (Or.inl (w147 hw)) Via.refl e2 H6 (g := (mkF m 12 #[rv sb, iv 0, rv xs] [(.ref sb), (.int 0), (.ref va), (.ref xs)])) rfl rfl (hb hby d20_12)
  refine go_st (fun t k => st3 t k) ?_
  show Go _ _ _ _ (T3.setTop (mkF m 15 #[rv sb, iv 0, rv xs] [(.int 0), (.int 0), (.ref va), (.ref xs)]))
  obtain ⟨cq4, kq4, q4a, q4b, q4c⟩ := isOf hZ e3 H0
  obtain ⟨_, _, ⟨T4, L4, kk4, nn4⟩, -, X4, ⟨Lc4, hQ4, lq4, yq4, zq4⟩, st4⟩ := X3.virtualBack hx (y := (⟨"java/lang/String", "getBytes", "([BIB)V"⟩ : MethodName)) (z := (⟨"java/lang/String", "getBytes", "([BIB)V"⟩ : MethodName)) hown (mvT hZ (w187 hw)) (mvT hZ (w188 hw)) (nf_same (y := (⟨"java/lang/String", "getBytes", "([BIB)V"⟩ : MethodName)) (y' := (⟨"java/lang/String", "equals", "(Ljava/lang/Object;)Z"⟩ : MethodName)) (a0 := #[]) rfl (mvT hZ (w75 hw)) (notFace_of_selects (args := #[]) (mvT hZ (w76 hw)))) (mvT hZ (w190 hw)) (mvT hZ (w189 hw)) (by decide) (backOf (W := 0) (rm_gby0_2 l Z a0 hw [] xs xt kx y0 y1 va kv u0 u1 u2 u3 G1 h0 n0 (Nat.le_trans Z0 (Nat.le_refl _)) H0 H1 H2 H3 H8 g_va CS CSn O0) hZ (w191 hw) (w11 hw) (by decide) (by decide)) q4a q4c (g := (mkF m 15 #[rv sb, iv 0, rv xs] [(.int 0), (.int 0), (.ref va), (.ref xs)])) rfl (by rw [hml]; rfl) (Steps.refl _) (argsL := [(.ref va), (.int 0), (.int 0)]) (rest := []) (lenOf pd_7 rfl) rfl (by show 2 * 0 + _ ≤ _; exact Nat.le_of_eq rfl) (hb hby d20_15) (fun _ _ => ⟨rfl, e3, (by decide : 0 + 0 ≤ _), (by decide : 0 + 0 ≤ _)⟩)
  dsimp only [Pt.U, Pt.locs, Pt.cells, Pt.slots] at X4 lq4 yq4 zq4 st4 hQ4
  obtain rfl : kk4 = 0 := yq4
  obtain rfl : nn4 = 0 := zq4
  obtain ⟨h4, e4⟩ : ∃ z, T4.heap = z := ⟨_, rfl⟩
  rw [e4] at hQ4
  obtain ⟨rfl, N4q, K4, p4_0⟩ := hQ4
  have N4 : Fr n0 L4 := by rw [lq4]; exact Fr.app N1 N4q
  refine go_tr st4 ?_
  show Go _ _ _ _ (T4.setTop (mkF m 18 #[rv sb, iv 0, rv xs] []))
  have ke5 : Keep h0 h4 [va] := (Keep.trans (Keep.refl h0 [va]) K4 (allS (Or.inl (List.mem_of_getElem? (i := 0) rfl)) all0))
  obtain ⟨fs, hr, hrun, hended, hW, hsame⟩ := X4.leave (v := none) (fun _ => rfl)
  refine ⟨_, _, ?_, hrun, hended, _, _, rfl, ?_, ⟨_, rfl⟩, hW, hsame.mono (by decide) (by decide)⟩
  · exact X4.returnOut hx Bd.returns (hb hby d20_18) hr
  · show Q_psa0_2 _ _ _ _ _ _ _ _ _ _ _ _ _ _ _ _ _ T4.heap _
    rw [e4]
    exact ⟨rfl, N4, ke5, p4_0⟩
def Q_asbaps0_2 (Z : State) (xs : Addr) (xt : Addr) (kx : ClassId) (y0 : Int32) (y1 : Int32) (sb : Addr) (va : Addr) (kv : ClassId) (u0 : Int32) (u1 : Int32) (u2 : Int32) (u3 : Int32) (G1 : Int32) (h0 : Heap) (n0 : Nat) (vR : Option Value) (h : Heap) (L : List Loc) : Prop := vR = some (.ref sb) ∧ Fr n0 L ∧ Keep h0 h [sb, va] ∧ (Exa Z h sb "java/lang/StringBuilder") ∧ (Fld Z h sb "java/lang/AbstractStringBuilder" "value" "[B" (.ref va)) ∧ (Fld Z h sb "java/lang/AbstractStringBuilder" "coder" "B" (.int 0)) ∧ (Fld Z h sb "java/lang/AbstractStringBuilder" "count" "I" (.int 2)) ∧ (Arv Z h va kv .byte (16 : Int32) [(.int y0), (.int y1), (.int u2), (.int u3)] (.int (0 : Int32)))
theorem ef_asbaps0_2 (m : MethodId) (x0 : Addr) (x1 : Addr) : entryFrame m #[(.ref x0), (.ref x1)] 3 = mkF m 0 #[.val (.ref x0), .val (.ref x1), .unset] [] := by first | (simp [entryFrame, mkF, argsToLocals, Value.category]; done) | rfl
set_option maxRecDepth 65536 in
set_option maxHeartbeats 40000000 in
theorem rm_asbaps0_2 (l : Launch) (Z : State) (a0 : Array Value) (hw : ∀ d ∈ tables_1, d.before a0 Z = true) (ws : List Jvm.Cond) (xs : Addr) (xt : Addr) (kx : ClassId) (y0 : Int32) (y1 : Int32) (sb : Addr) (va : Addr) (kv : ClassId) (u0 : Int32) (u1 : Int32) (u2 : Int32) (u3 : Int32) (G1 : Int32) (h0 : Heap) (n0 : Nat) (Z0 : n0 ≤ h0.size) (H0 : Exa Z h0 xs "java/lang/String") (H1 : Fld Z h0 xs "java/lang/String" "value" "[B" (.ref xt)) (H2 : Fld Z h0 xs "java/lang/String" "coder" "B" (.int 0)) (H3 : Arv Z h0 xt kx .byte (2 : Int32) [(.int y0), (.int y1)] (.int (0 : Int32))) (H4 : Exa Z h0 sb "java/lang/StringBuilder") (H5 : Fld Z h0 sb "java/lang/AbstractStringBuilder" "value" "[B" (.ref va)) (H6 : Fld Z h0 sb "java/lang/AbstractStringBuilder" "coder" "B" (.int 0)) (H7 : Fld Z h0 sb "java/lang/AbstractStringBuilder" "count" "I" (.int 0)) (H8 : Arv Z h0 va kv .byte (16 : Int32) [(.int u0), (.int u1), (.int u2), (.int u3)] (.int (0 : Int32))) (g_sb : n0 ≤ sb) (g_va : n0 ≤ va) (CS : Sta Z Z.heap "java/lang/String" "COMPACT_STRINGS" "Z" (.int G1)) (CSn : ¬ (G1 = (0 : Int32))) (O0 : Old Z n0 h0) :
    MetFree l (⟨"java/lang/AbstractStringBuilder", "append", "(Ljava/lang/String;)Ljava/lang/AbstractStringBuilder;"⟩ : MethodName) (head1 (Jvm.Cond.code (⟨"java/lang/AbstractStringBuilder", "append", "(Ljava/lang/String;)Ljava/lang/AbstractStringBuilder;"⟩ : MethodName) jdk_68_method_22_code 3 (some (.object "java/lang/AbstractStringBuilder")) :: ws) ({ frames := 3, cells := 0, slots := 0, locals := 47 } : Room)) (fun a U => a = #[(.ref sb), (.ref xs)] ∧ Z.Warmed39 U.vm ∧ U.heap = h0) (fun _ _ _ _ _ => True) (fun _ U o U' => ∃ v L, o = .returned v ∧ Q_asbaps0_2 Z xs xt kx y0 y1 sb va kv u0 u1 u2 u3 G1 h0 n0 v U'.heap L ∧ FrameEnd U o U' L ({ frames := 3, cells := 0, slots := 0, locals := 47 } : Room).cells ({ frames := 3, cells := 0, slots := 0, locals := 47 } : Room).slots) := by
  refine MetFree.of_bodySF (plainFor_of_name pn_java_lang_AbstractStringBuilder) hisR ?_
  intro p e s m args below meth c s₁ Bd hml0 hP hK
  obtain ⟨rfl, hZ, hh⟩ := hP
  have hx := Bd.exec
  have hby := Bd.bytes
  have hml : c.maxLocals = 3 := hml0
  have hown : s.vm.findClass "java/lang/AbstractStringBuilder" = some m.cls := findClass_of_methodNamed Bd.named
  have hnm := (name_of_methodNamed Bd.named Bd.method).1
  have X0 : Stand p l e ({ frames := 3, cells := 0, slots := 0, locals := 47 } : Room) s m #[(.ref sb), (.ref xs)] below meth c s₁ [] 0 0 := Stand.of_body Bd
  have e0 : s₁.heap = h0 := by rw [← hh, Bd.state]; rfl
  have N0 := Fr.nil n0
  refine go_st (fun t k => castTop (ef_asbaps0_2 m sb xs) k) ?_
  show Go _ _ _ _ (s₁.setTop (mkF m 0 #[rv sb, rv xs, .unset] []))
  refine go_st (fun t k => XS.aloadN X0.here hx rfl (hb hby d16_0) rfl rfl k) ?_
  show Go _ _ _ _ (s₁.setTop (mkF m 1 #[rv sb, rv xs, .unset] [(.ref xs)]))
  refine go_st (fun t k => XS.ifnonnullYes X0.here hx rfl (pc0 := 1) (pc' := 9) rfl (hb hby d16_1) rfl (by decide) (by decide) k) ?_
  show Go _ _ _ _ (s₁.setTop (mkF m 9 #[rv sb, rv xs, .unset] []))
  refine go_st (fun t k => XS.aloadN X0.here hx rfl (hb hby d16_9) rfl rfl k) ?_
  show Go _ _ _ _ (s₁.setTop (mkF m 10 #[rv sb, rv xs, .unset] [(.ref xs)]))
  obtain ⟨cq1, kq1, q1a, q1b, q1c⟩ := isOf hZ e0 H0
  obtain ⟨_, _, ⟨T1, L1, kk1, nn1⟩, -, X1, ⟨Lc1, hQ1, lq1, yq1, zq1⟩, st1⟩ := X0.virtualBack hx (y := (⟨"java/lang/String", "length", "()I"⟩ : MethodName)) (z := (⟨"java/lang/String", "length", "()I"⟩ : MethodName)) hown (mvT hZ (w159 hw)) (mvT hZ (w160 hw)) (nf_same (y := (⟨"java/lang/String", "length", "()I"⟩ : MethodName)) (y' := (⟨"java/lang/String", "equals", "(Ljava/lang/Object;)Z"⟩ : MethodName)) (a0 := #[]) rfl (mvT hZ (w75 hw)) (notFace_of_selects (args := #[]) (mvT hZ (w76 hw)))) (mvT hZ (w162 hw)) (mvT hZ (w161 hw)) (by decide) (backOf (W := 0) (rm_slength2 l Z a0 hw [] xs xt kx y0 y1 G1 h0 n0 (Nat.le_trans Z0 (Nat.le_refl _)) H0 H1 H2 H3 CS CSn O0) hZ (w163 hw) (w11 hw) (by decide) (by decide)) q1a q1c (g := (mkF m 10 #[rv sb, rv xs, .unset] [(.ref xs)])) rfl (by rw [hml]; rfl) (Steps.refl _) (argsL := []) (rest := []) (lenOf pd_5 rfl) rfl (by show 2 * 0 + _ ≤ _; exact Nat.le_of_eq rfl) (hb hby d16_10) (fun _ _ => ⟨rfl, e0, (by decide : 0 + 0 ≤ _), (by decide : 0 + 0 ≤ _)⟩)
  dsimp only [Pt.U, Pt.locs, Pt.cells, Pt.slots] at X1 lq1 yq1 zq1 st1 hQ1
  obtain rfl : kk1 = 0 := yq1
  obtain rfl : nn1 = 0 := zq1
  obtain ⟨h1, e1⟩ : ∃ z, T1.heap = z := ⟨_, rfl⟩
  rw [e1] at hQ1
  obtain ⟨rfl, N1q, he1⟩ := hQ1
  have N1 : Fr n0 L1 := by rw [lq1]; exact Fr.app N0 N1q
  rw [he1] at e1
  refine go_tr st1 ?_
  show Go _ _ _ _ (T1.setTop (mkF m 13 #[rv sb, rv xs, .unset] [(.int 2)]))
  refine go_st (fun t k => XS.istoreN X1.here hx rfl (hb hby d16_13) rfl (l' := #[rv sb, rv xs, iv 2]) rfl k) ?_
  show Go _ _ _ _ (T1.setTop (mkF m 14 #[rv sb, rv xs, iv 2] []))
  refine go_st (fun t k => XS.aloadN X1.here hx rfl (hb hby d16_14) rfl rfl k) ?_
  show Go _ _ _ _ (T1.setTop (mkF m 15 #[rv sb, rv xs, iv 2] [(.ref sb)]))
  refine go_st (fun t k => XS.aloadN X1.here hx rfl (hb hby d16_15) rfl rfl k) ?_
  show Go _ _ _ _ (T1.setTop (mkF m 16 #[rv sb, rv xs, iv 2] [(.ref sb), (.ref sb)]))
  obtain ⟨T2, X2, e2, st2⟩ := getF X1 hx hZ hown (host := "") (Or.inl (w169 hw)) Via.refl e1 H7 (g := (mkF m 16 #[rv sb, rv xs, iv 2] [(.ref sb), (.ref sb)])) rfl rfl (hb hby d16_16)
  refine go_st (fun t k => st2 t k) ?_
  show Go _ _ _ _ (T2.setTop (mkF m 19 #[rv sb, rv xs, iv 2] [(.int 0), (.ref sb)]))
  refine go_st (fun t k => XS.iloadN X2.here hx rfl (hb hby d16_19) rfl k) ?_
  show Go _ _ _ _ (T2.setTop (mkF m 20 #[rv sb, rv xs, iv 2] [(.int 2), (.int 0), (.ref sb)]))
  refine go_st (fun t k => XS.iadd X2.here hx rfl (hb hby d16_20) rfl k) ?_
  rw [show ((0 : Int32) + (2 : Int32)) = (2 : Int32) from by decide]
  show Go _ _ _ _ (T2.setTop (mkF m 21 #[rv sb, rv xs, iv 2] [(.int 2), (.ref sb)]))
  obtain ⟨cq3, q3, q3'⟩ := H4.cell
  obtain ⟨_, _, ⟨T3, L3, kk3, nn3⟩, -, X3, ⟨Lc3, hQ3, lq3, yq3, zq3⟩, st3⟩ := X2.privateBack hx (y := (⟨"java/lang/AbstractStringBuilder", "ensureCapacityInternal", "(I)V"⟩ : MethodName)) hown (mvT hZ (w171 hw)) (mvT hZ (w172 hw)) (mvT hZ (sel_priv (w173 hw) (w172 hw) (notFace_of_selects (w174 hw)) (by decide))) (Cond.privateMethod_at (mvP hZ (w173 hw) (args := #[]))) (mvT hZ (w175 hw)) (by decide) (backOf (W := 0) (rm_ens2 l Z a0 hw [] sb va kv u0 u1 u2 u3 h0 n0 (Nat.le_trans Z0 (Nat.le_refl _)) H5 H6 H8) hZ (w175 hw) (w141 hw) (by decide) (by decide)) (g := (mkF m 21 #[rv sb, rv xs, iv 2] [(.int 2), (.ref sb)])) rfl (by rw [hml]; rfl) (Steps.refl _) (a := sb) (by rw [e2]; exact q3) q3' (argsL := [(.int 2)]) (rest := []) (lenOf pd_3 rfl) rfl (by show 2 * 0 + _ ≤ _; exact Nat.le_of_eq rfl) (hb hby d16_21) (fun _ _ => ⟨rfl, e2, (by decide : 0 + 0 ≤ _), (by decide : 0 + 0 ≤ _)⟩)
  dsimp only [Pt.U, Pt.locs, Pt.cells, Pt.slots] at X3 lq3 yq3 zq3 st3 hQ3
  obtain rfl : kk3 = 0 := yq3
  obtain rfl : nn3 = 0 := zq3
  obtain ⟨h3, e3⟩ : ∃ z, T3.heap = z := ⟨_, rfl⟩
  rw [e3] at hQ3
  obtain ⟨rfl, N3q, he3⟩ := hQ3
  have N3 : Fr n0 L3 := by rw [lq3]; exact Fr.app N1 N3q
  rw [he3] at e3
  refine go_tr st3 ?_
  show Go _ _ _ _ (T3.setTop (mkF m 24 #[rv sb, rv xs, iv 2] []))
  refine go_st (fun t k => XS.aloadN X3.here hx rfl (hb hby d16_24) rfl rfl k) ?_
  show Go _ _ _ _ (T3.setTop (mkF m 25 #[rv sb, rv xs, iv 2] [(.ref sb)]))
  refine go_st (fun t k => XS.aloadN X3.here hx rfl (hb hby d16_25) rfl rfl k) ?_
  show Go _ _ _ _ (T3.setTop (mkF m 26 #[rv sb, rv xs, iv 2] [(.ref sb), (.ref sb)]))
  obtain ⟨T4, X4, e4, st4⟩ := getF X3 hx hZ hown (host := "") (Or.inl (w169 hw)) Via.refl e3 H7 (g := (mkF m 26 #[rv sb, rv xs, iv 2] [(.ref sb), (.ref sb)])) rfl rfl (hb hby d16_26)
  refine go_st (fun t k => st4 t k) ?_
  show Go _ _ _ _ (T4.setTop (mkF m 29 #[rv sb, rv xs, iv 2] [(.int 0), (.ref sb)]))
  refine go_st (fun t k => XS.aloadN X4.here hx rfl (hb hby d16_29) rfl rfl k) ?_
  show Go _ _ _ _ (T4.setTop (mkF m 30 #[rv sb, rv xs, iv 2] [(.ref xs), (.int 0), (.ref sb)]))
  obtain ⟨cq5, q5, q5'⟩ := H4.cell
  obtain ⟨_, _, ⟨T5, L5, kk5, nn5⟩, -, X5, ⟨Lc5, hQ5, lq5, yq5, zq5⟩, st5⟩ := X4.privateBack hx (y := (⟨"java/lang/AbstractStringBuilder", "putStringAt", "(ILjava/lang/String;)V"⟩ : MethodName)) hown (mvT hZ (w176 hw)) (mvT hZ (w177 hw)) (mvT hZ (sel_priv (w178 hw) (w177 hw) (nf_same (y := (⟨"java/lang/AbstractStringBuilder", "putStringAt", "(ILjava/lang/String;)V"⟩ : MethodName)) (y' := (⟨"java/lang/AbstractStringBuilder", "ensureCapacityInternal", "(I)V"⟩ : MethodName)) rfl (w172 hw) (notFace_of_selects (w174 hw))) (by decide))) (Cond.privateMethod_at (mvP hZ (w178 hw) (args := #[]))) (mvT hZ (w180 hw)) (by decide) (backOf (W := 0) (rm_psa0_2 l Z a0 hw [] xs xt kx y0 y1 sb va kv u0 u1 u2 u3 G1 h0 n0 (Nat.le_trans Z0 (Nat.le_refl _)) H0 H1 H2 H3 H4 H5 H6 H7 H8 g_sb g_va CS CSn O0) hZ (w180 hw) (w141 hw) (by decide) (by decide)) (g := (mkF m 30 #[rv sb, rv xs, iv 2] [(.ref xs), (.int 0), (.ref sb)])) rfl (by rw [hml]; rfl) (Steps.refl _) (a := sb) (by rw [e4]; exact q5) q5' (argsL := [(.int 0), (.ref xs)]) (rest := []) (lenOf pd_8 rfl) rfl (by show 2 * 0 + _ ≤ _; exact Nat.le_of_eq rfl) (hb hby d16_30) (fun _ _ => ⟨rfl, e4, (by decide : 0 + 0 ≤ _), (by decide : 0 + 0 ≤ _)⟩)
  dsimp only [Pt.U, Pt.locs, Pt.cells, Pt.slots] at X5 lq5 yq5 zq5 st5 hQ5
  obtain rfl : kk5 = 0 := yq5
  obtain rfl : nn5 = 0 := zq5
  obtain ⟨h5, e5⟩ : ∃ z, T5.heap = z := ⟨_, rfl⟩
  rw [e5] at hQ5
  obtain ⟨rfl, N5q, K5, p5_0⟩ := hQ5
  have N5 : Fr n0 L5 := by rw [lq5]; exact Fr.app N3 N5q
  refine go_tr st5 ?_
  show Go _ _ _ _ (T5.setTop (mkF m 33 #[rv sb, rv xs, iv 2] []))
  refine go_st (fun t k => XS.aloadN X5.here hx rfl (hb hby d16_33) rfl rfl k) ?_
  show Go _ _ _ _ (T5.setTop (mkF m 34 #[rv sb, rv xs, iv 2] [(.ref sb)]))
  refine go_st (fun t k => XS.dup X5.here hx rfl (hb hby d16_34) rfl rfl k) ?_
  show Go _ _ _ _ (T5.setTop (mkF m 35 #[rv sb, rv xs, iv 2] [(.ref sb), (.ref sb)]))
  have nq6 : sb ≠ va := Exa.neArv H4 H8 (w132 hw)
  have f7 : Fld Z h5 sb "java/lang/AbstractStringBuilder" "count" "I" (.int 0) := (H7.keep K5 (ninS nq6 nin0))
  obtain ⟨T8, X8, e8, st8⟩ := getF X5 hx hZ hown (host := "") (Or.inl (w169 hw)) Via.refl e5 f7 (g := (mkF m 35 #[rv sb, rv xs, iv 2] [(.ref sb), (.ref sb)])) rfl rfl (hb hby d16_35)
  refine go_st (fun t k => st8 t k) ?_
  show Go _ _ _ _ (T8.setTop (mkF m 38 #[rv sb, rv xs, iv 2] [(.int 0), (.ref sb)]))
  refine go_st (fun t k => XS.iloadN X8.here hx rfl (hb hby d16_38) rfl k) ?_
  show Go _ _ _ _ (T8.setTop (mkF m 39 #[rv sb, rv xs, iv 2] [(.int 2), (.int 0), (.ref sb)]))
  refine go_st (fun t k => XS.iadd X8.here hx rfl (hb hby d16_39) rfl k) ?_
  rw [show ((0 : Int32) + (2 : Int32)) = (2 : Int32) from by decide]
  show Go _ _ _ _ (T8.setTop (mkF m 40 #[rv sb, rv xs, iv 2] [(.int 2), (.ref sb)]))
  have f9 : Exa Z h5 sb "java/lang/StringBuilder" := (H4.keep K5)
  obtain ⟨T10, h10, X10, e10, W10, st10⟩ := putF X8 hx hZ hown (host := "") (Or.inl (w169 hw)) Via.refl e8 f7 f9 (Or.inl (w170 hw)) (w132 hw) (ty := .int) (by decide) rfl rfl (g := (mkF m 40 #[rv sb, rv xs, iv 2] [(.int 2), (.ref sb)])) rfl rfl (hb hby d16_40)
  have N10 := Fr.snoc X10 N5 g_sb
  have f11 : Fld Z h10 sb "java/lang/AbstractStringBuilder" "count" "I" (.int 2) := f7.same W10
  refine go_st (fun t k => st10 t k) ?_
  show Go _ _ _ _ (T10.setTop (mkF m 43 #[rv sb, rv xs, iv 2] []))
  refine go_st (fun t k => XS.aloadN X10.here hx rfl (hb hby d16_43) rfl rfl k) ?_
  show Go _ _ _ _ (T10.setTop (mkF m 44 #[rv sb, rv xs, iv 2] [(.ref sb)]))
  have f12 : Exa Z h10 sb "java/lang/StringBuilder" := (f9.wr W10)
  have f13 : Fld Z h10 sb "java/lang/AbstractStringBuilder" "value" "[B" (.ref va) := ((H5.keep K5 (ninS nq6 nin0)).other W10 (Or.inr (slot_ne (Or.inl (w146 hw)) (Or.inl (w170 hw)) (by decide) (t := (.array .byte)) (t' := .int) (by decide) (by decide))))
  have f14 : Fld Z h10 sb "java/lang/AbstractStringBuilder" "coder" "B" (.int 0) := ((H6.keep K5 (ninS nq6 nin0)).other W10 (Or.inr (slot_ne (Or.inl (w148 hw)) (Or.inl (w170 hw)) (by decide) (t := .byte) (t' := .int) (by decide) (by decide))))
  have f15 : Arv Z h10 va kv .byte (16 : Int32) [(.int y0), (.int y1), (.int u2), (.int u3)] (.int (0 : Int32)) := (p5_0.other W10 (Ne.symm nq6))
  have ke16 : Keep h0 h5 [sb, va] := (Keep.trans (Keep.refl h0 [sb, va]) K5 (allS (Or.inl (List.mem_of_getElem? (i := 1) rfl)) all0))
  have ke17 : Keep h0 h10 [sb, va] := (Keep.wr ke16 W10 (Or.inl (List.mem_of_getElem? (i := 0) rfl)))
  obtain ⟨fs, hr, hrun, hended, hW, hsame⟩ := X10.leave (v := some (.ref sb)) (fun h => by rw [Bd.returns] at h; cases h)
  refine ⟨_, _, ?_, hrun, hended, _, _, rfl, ?_, ⟨_, rfl⟩, hW, hsame.mono (by decide) (by decide)⟩
  · exact retOut X10 hx Bd.returns rfl (Or.inr (Or.inr (Or.inr (Or.inr ⟨rfl, rfl, rfl⟩)))) (hb hby d16_44) hr
  · show Q_asbaps0_2 _ _ _ _ _ _ _ _ _ _ _ _ _ _ _ _ _ T10.heap _
    rw [e10]
    exact ⟨rfl, N10, ke17, f12, f13, f14, f11, f15⟩
def Q_sbaps0_2 (Z : State) (xs : Addr) (xt : Addr) (kx : ClassId) (y0 : Int32) (y1 : Int32) (sb : Addr) (va : Addr) (kv : ClassId) (u0 : Int32) (u1 : Int32) (u2 : Int32) (u3 : Int32) (G1 : Int32) (h0 : Heap) (n0 : Nat) (vR : Option Value) (h : Heap) (L : List Loc) : Prop := vR = some (.ref sb) ∧ Fr n0 L ∧ Keep h0 h [sb, va] ∧ (Exa Z h sb "java/lang/StringBuilder") ∧ (Fld Z h sb "java/lang/AbstractStringBuilder" "value" "[B" (.ref va)) ∧ (Fld Z h sb "java/lang/AbstractStringBuilder" "coder" "B" (.int 0)) ∧ (Fld Z h sb "java/lang/AbstractStringBuilder" "count" "I" (.int 2)) ∧ (Arv Z h va kv .byte (16 : Int32) [(.int y0), (.int y1), (.int u2), (.int u3)] (.int (0 : Int32)))
theorem ef_sbaps0_2 (m : MethodId) (x0 : Addr) (x1 : Addr) : entryFrame m #[(.ref x0), (.ref x1)] 2 = mkF m 0 #[.val (.ref x0), .val (.ref x1)] [] := by first | (simp [entryFrame, mkF, argsToLocals, Value.category]; done) | rfl
set_option maxRecDepth 65536 in
set_option maxHeartbeats 40000000 in
theorem rm_sbaps0_2 (l : Launch) (Z : State) (a0 : Array Value) (hw : ∀ d ∈ tables_1, d.before a0 Z = true) (ws : List Jvm.Cond) (xs : Addr) (xt : Addr) (kx : ClassId) (y0 : Int32) (y1 : Int32) (sb : Addr) (va : Addr) (kv : ClassId) (u0 : Int32) (u1 : Int32) (u2 : Int32) (u3 : Int32) (G1 : Int32) (h0 : Heap) (n0 : Nat) (Z0 : n0 ≤ h0.size) (H0 : Exa Z h0 xs "java/lang/String") (H1 : Fld Z h0 xs "java/lang/String" "value" "[B" (.ref xt)) (H2 : Fld Z h0 xs "java/lang/String" "coder" "B" (.int 0)) (H3 : Arv Z h0 xt kx .byte (2 : Int32) [(.int y0), (.int y1)] (.int (0 : Int32))) (H4 : Exa Z h0 sb "java/lang/StringBuilder") (H5 : Fld Z h0 sb "java/lang/AbstractStringBuilder" "value" "[B" (.ref va)) (H6 : Fld Z h0 sb "java/lang/AbstractStringBuilder" "coder" "B" (.int 0)) (H7 : Fld Z h0 sb "java/lang/AbstractStringBuilder" "count" "I" (.int 0)) (H8 : Arv Z h0 va kv .byte (16 : Int32) [(.int u0), (.int u1), (.int u2), (.int u3)] (.int (0 : Int32))) (g_sb : n0 ≤ sb) (g_va : n0 ≤ va) (CS : Sta Z Z.heap "java/lang/String" "COMPACT_STRINGS" "Z" (.int G1)) (CSn : ¬ (G1 = (0 : Int32))) (O0 : Old Z n0 h0) :
    MetFree l (⟨"java/lang/StringBuilder", "append", "(Ljava/lang/String;)Ljava/lang/StringBuilder;"⟩ : MethodName) (head1 (Jvm.Cond.code (⟨"java/lang/StringBuilder", "append", "(Ljava/lang/String;)Ljava/lang/StringBuilder;"⟩ : MethodName) jdk_67_method_7_code 2 (some (.object "java/lang/StringBuilder")) :: ws) ({ frames := 4, cells := 0, slots := 0, locals := 61 } : Room)) (fun a U => a = #[(.ref sb), (.ref xs)] ∧ Z.Warmed39 U.vm ∧ U.heap = h0) (fun _ _ _ _ _ => True) (fun _ U o U' => ∃ v L, o = .returned v ∧ Q_sbaps0_2 Z xs xt kx y0 y1 sb va kv u0 u1 u2 u3 G1 h0 n0 v U'.heap L ∧ FrameEnd U o U' L ({ frames := 4, cells := 0, slots := 0, locals := 61 } : Room).cells ({ frames := 4, cells := 0, slots := 0, locals := 61 } : Room).slots) := by
  refine MetFree.of_bodySF (plainFor_of_name pn_java_lang_StringBuilder) hisR ?_
  intro p e s m args below meth c s₁ Bd hml0 hP hK
  obtain ⟨rfl, hZ, hh⟩ := hP
  have hx := Bd.exec
  have hby := Bd.bytes
  have hml : c.maxLocals = 2 := hml0
  have hown : s.vm.findClass "java/lang/StringBuilder" = some m.cls := findClass_of_methodNamed Bd.named
  have hnm := (name_of_methodNamed Bd.named Bd.method).1
  have X0 : Stand p l e ({ frames := 4, cells := 0, slots := 0, locals := 61 } : Room) s m #[(.ref sb), (.ref xs)] below meth c s₁ [] 0 0 := Stand.of_body Bd
  have e0 : s₁.heap = h0 := by rw [← hh, Bd.state]; rfl
  have N0 := Fr.nil n0
  refine go_st (fun t k => castTop (ef_sbaps0_2 m sb xs) k) ?_
  show Go _ _ _ _ (s₁.setTop (mkF m 0 #[rv sb, rv xs] []))
  refine go_st (fun t k => XS.aloadN X0.here hx rfl (hb hby d15_0) rfl rfl k) ?_
  show Go _ _ _ _ (s₁.setTop (mkF m 1 #[rv sb, rv xs] [(.ref sb)]))
  refine go_st (fun t k => XS.aloadN X0.here hx rfl (hb hby d15_1) rfl rfl k) ?_
  show Go _ _ _ _ (s₁.setTop (mkF m 2 #[rv sb, rv xs] [(.ref xs), (.ref sb)]))
  obtain ⟨_, _, ⟨T1, L1, kk1, nn1⟩, -, X1, ⟨Lc1, hQ1, lq1, yq1, zq1⟩, st1⟩ := superBack X0 hx hZ (y := (⟨"java/lang/AbstractStringBuilder", "append", "(Ljava/lang/String;)Ljava/lang/AbstractStringBuilder;"⟩ : MethodName)) hown (w154 hw) (same_self (w155 hw) (nf_same (y := (⟨"java/lang/AbstractStringBuilder", "append", "(Ljava/lang/String;)Ljava/lang/AbstractStringBuilder;"⟩ : MethodName)) (y' := (⟨"java/lang/AbstractStringBuilder", "ensureCapacityInternal", "(I)V"⟩ : MethodName)) rfl (w172 hw) (notFace_of_selects (w174 hw))) (by decide)) (w155 hw) (w156 hw) (by decide) (backOf (W := 0) (rm_asbaps0_2 l Z a0 hw [] xs xt kx y0 y1 sb va kv u0 u1 u2 u3 G1 h0 n0 (Nat.le_trans Z0 (Nat.le_refl _)) H0 H1 H2 H3 H4 H5 H6 H7 H8 g_sb g_va CS CSn O0) hZ (w158 hw) (w141 hw) (by decide) (by decide)) e0 (a := sb) (Ins.self H4) (g := (mkF m 2 #[rv sb, rv xs] [(.ref xs), (.ref sb)])) rfl (by rw [hml]; rfl) (w158 hw) (argsL := [(.ref xs)]) (rest := []) (lenOf pd_9 rfl) rfl (by show 2 * 0 + _ ≤ _; exact Nat.le_of_eq rfl) (hb hby d15_2) (fun _ _ => ⟨rfl, e0, (by decide : 0 + 0 ≤ _), (by decide : 0 + 0 ≤ _)⟩)
  dsimp only [Pt.U, Pt.locs, Pt.cells, Pt.slots] at X1 lq1 yq1 zq1 st1 hQ1
  obtain rfl : kk1 = 0 := yq1
  obtain rfl : nn1 = 0 := zq1
  obtain ⟨h1, e1⟩ : ∃ z, T1.heap = z := ⟨_, rfl⟩
  rw [e1] at hQ1
  obtain ⟨rfl, N1q, K1, p1_0, p1_1, p1_2, p1_3, p1_4⟩ := hQ1
  have N1 : Fr n0 L1 := by rw [lq1]; exact Fr.app N0 N1q
  refine go_tr st1 ?_
  show Go _ _ _ _ (T1.setTop (mkF m 5 #[rv sb, rv xs] [(.ref sb)]))
  refine go_st (fun t k => XS.pop X1.here hx rfl (hb hby d15_5) rfl rfl k) ?_
  show Go _ _ _ _ (T1.setTop (mkF m 6 #[rv sb, rv xs] []))
  refine go_st (fun t k => XS.aloadN X1.here hx rfl (hb hby d15_6) rfl rfl k) ?_
  show Go _ _ _ _ (T1.setTop (mkF m 7 #[rv sb, rv xs] [(.ref sb)]))
  have ke2 : Keep h0 h1 [sb, va] := (Keep.trans (Keep.refl h0 [sb, va]) K1 (allS (Or.inl (List.mem_of_getElem? (i := 0) rfl)) (allS (Or.inl (List.mem_of_getElem? (i := 1) rfl)) all0)))
  obtain ⟨fs, hr, hrun, hended, hW, hsame⟩ := X1.leave (v := some (.ref sb)) (fun h => by rw [Bd.returns] at h; cases h)
  refine ⟨_, _, ?_, hrun, hended, _, _, rfl, ?_, ⟨_, rfl⟩, hW, hsame.mono (by decide) (by decide)⟩
  · exact retOut X1 hx Bd.returns rfl (Or.inr (Or.inr (Or.inr (Or.inr ⟨rfl, rfl, rfl⟩)))) (hb hby d15_7) hr
  · show Q_sbaps0_2 _ _ _ _ _ _ _ _ _ _ _ _ _ _ _ _ _ T1.heap _
    rw [e1]
    exact ⟨rfl, N1, ke2, p1_0, p1_1, p1_2, p1_3, p1_4⟩
def Q_slength1 (Z : State) (xs : Addr) (xt : Addr) (kx : ClassId) (y0 : Int32) (G1 : Int32) (h0 : Heap) (n0 : Nat) (vR : Option Value) (h : Heap) (L : List Loc) : Prop := vR = some (.int 1) ∧ Fr n0 L ∧ h = h0
theorem ef_slength1 (m : MethodId) (x0 : Addr) : entryFrame m #[(.ref x0)] 1 = mkF m 0 #[.val (.ref x0)] [] := by first | (simp [entryFrame, mkF, argsToLocals, Value.category]; done) | rfl
set_option maxRecDepth 65536 in
set_option maxHeartbeats 40000000 in
theorem rm_slength1 (l : Launch) (Z : State) (a0 : Array Value) (hw : ∀ d ∈ tables_1, d.before a0 Z = true) (ws : List Jvm.Cond) (xs : Addr) (xt : Addr) (kx : ClassId) (y0 : Int32) (G1 : Int32) (h0 : Heap) (n0 : Nat) (Z0 : n0 ≤ h0.size) (H0 : Exa Z h0 xs "java/lang/String") (H1 : Fld Z h0 xs "java/lang/String" "value" "[B" (.ref xt)) (H2 : Fld Z h0 xs "java/lang/String" "coder" "B" (.int 0)) (H3 : Arv Z h0 xt kx .byte (1 : Int32) [(.int y0)] (.int (0 : Int32))) (CS : Sta Z Z.heap "java/lang/String" "COMPACT_STRINGS" "Z" (.int G1)) (CSn : ¬ (G1 = (0 : Int32))) (O0 : Old Z n0 h0) :
    MetFree l (⟨"java/lang/String", "length", "()I"⟩ : MethodName) (head1 (Jvm.Cond.code (⟨"java/lang/String", "length", "()I"⟩ : MethodName) jdk_42_method_54_code 1 (some .int) :: ws) ({ frames := 1, cells := 0, slots := 0, locals := 13 } : Room)) (fun a U => a = #[(.ref xs)] ∧ Z.Warmed39 U.vm ∧ U.heap = h0) (fun _ _ _ _ _ => True) (fun _ U o U' => ∃ v L, o = .returned v ∧ Q_slength1 Z xs xt kx y0 G1 h0 n0 v U'.heap L ∧ FrameEnd U o U' L ({ frames := 1, cells := 0, slots := 0, locals := 13 } : Room).cells ({ frames := 1, cells := 0, slots := 0, locals := 13 } : Room).slots) := by
  refine MetFree.of_bodySF (plainFor_of_name pn_java_lang_String) hisR ?_
  intro p e s m args below meth c s₁ Bd hml0 hP hK
  obtain ⟨rfl, hZ, hh⟩ := hP
  have hx := Bd.exec
  have hby := Bd.bytes
  have hml : c.maxLocals = 1 := hml0
  have hown : s.vm.findClass "java/lang/String" = some m.cls := findClass_of_methodNamed Bd.named
  have hnm := (name_of_methodNamed Bd.named Bd.method).1
  have X0 : Stand p l e ({ frames := 1, cells := 0, slots := 0, locals := 13 } : Room) s m #[(.ref xs)] below meth c s₁ [] 0 0 := Stand.of_body Bd
  have e0 : s₁.heap = h0 := by rw [← hh, Bd.state]; rfl
  have N0 := Fr.nil n0
  refine go_st (fun t k => castTop (ef_slength1 m xs) k) ?_
  show Go _ _ _ _ (s₁.setTop (mkF m 0 #[rv xs] []))
  refine go_st (fun t k => XS.aloadN X0.here hx rfl (hb hby d17_0) rfl rfl k) ?_
  show Go _ _ _ _ (s₁.setTop (mkF m 1 #[rv xs] [(.ref xs)]))
  obtain ⟨T1, X1, e1, st1⟩ := getF X0 hx hZ hown (host := "") (Or.inl (w36 hw)) Via.refl e0 H1 (g := (mkF m 1 #[rv xs] [(.ref xs)])) rfl rfl (hb hby d17_1)
  refine go_st (fun t k => st1 t k) ?_
  show Go _ _ _ _ (T1.setTop (mkF m 4 #[rv xs] [(.ref xt)]))
  obtain ⟨zc2, zA2, zq2, zS2, zN2, zH2, zG2⟩ := id H3
  refine go_st (fun t k => X1.arraylength hx (by rw [e1]; exact zA2.1) (State.isArrayOf_alike hZ.alike zA2.2.1) (g := (mkF m 4 #[rv xs] [(.ref xt)])) rfl rfl (hb hby d17_4) t k) ?_
  rw [len_of zS2 zN2]
  show Go _ _ _ _ (T1.setTop (mkF m 5 #[rv xs] [(.int 1)]))
  refine go_st (fun t k => XS.aloadN X1.here hx rfl (hb hby d17_5) rfl rfl k) ?_
  show Go _ _ _ _ (T1.setTop (mkF m 6 #[rv xs] [(.ref xs), (.int 1)]))
  obtain ⟨cq3, kq3, q3a, q3b, q3c⟩ := isOf hZ e1 H0
  obtain ⟨_, _, ⟨T3, L3, kk3, nn3⟩, -, X3, ⟨Lc3, hQ3, lq3, yq3, zq3⟩, st3⟩ := X1.virtualBack hx (y := (⟨"java/lang/String", "coder", "()B"⟩ : MethodName)) (z := (⟨"java/lang/String", "coder", "()B"⟩ : MethodName)) hown (mvT hZ (w164 hw)) (mvT hZ (w165 hw)) (nf_same (y := (⟨"java/lang/String", "coder", "()B"⟩ : MethodName)) (y' := (⟨"java/lang/String", "equals", "(Ljava/lang/Object;)Z"⟩ : MethodName)) (a0 := #[]) rfl (mvT hZ (w75 hw)) (notFace_of_selects (args := #[]) (mvT hZ (w76 hw)))) (mvT hZ (w167 hw)) (mvT hZ (w166 hw)) (by decide) (backOf (W := 1) (rm_cod l Z a0 hw [] xs G1 h0 n0 (Nat.le_trans Z0 (Nat.le_refl _)) H2 CS CSn O0) hZ (w168 hw) (w11 hw) (by decide) (by decide)) q3a q3c (g := (mkF m 6 #[rv xs] [(.ref xs), (.int 1)])) rfl (by rw [hml]; rfl) (Steps.refl _) (argsL := []) (rest := [(.int 1)]) (lenOf pd_4 rfl) rfl (by show 2 * 0 + _ ≤ _; exact Nat.le_of_eq rfl) (hb hby d17_6) (fun _ _ => ⟨rfl, e1, (by decide : 0 + 0 ≤ _), (by decide : 0 + 0 ≤ _)⟩)
  dsimp only [Pt.U, Pt.locs, Pt.cells, Pt.slots] at X3 lq3 yq3 zq3 st3 hQ3
  obtain rfl : kk3 = 0 := yq3
  obtain rfl : nn3 = 0 := zq3
  obtain ⟨h3, e3⟩ : ∃ z, T3.heap = z := ⟨_, rfl⟩
  rw [e3] at hQ3
  obtain ⟨rfl, N3q, he3⟩ := hQ3
  have N3 : Fr n0 L3 := by rw [lq3]; exact Fr.app N0 N3q
  rw [he3] at e3
  refine go_tr st3 ?_
  show Go _ _ _ _ (T3.setTop (mkF m 9 #[rv xs] [(.int 0), (.int 1)]))
  refine go_st (fun t k => XS.ishr X3.here hx rfl (hb hby d17_9) rfl k) ?_
  rw [show ((1 : Int32) >>> ((0 : Int32) &&& 31)) = (1 : Int32) from by decide]
  show Go _ _ _ _ (T3.setTop (mkF m 10 #[rv xs] [(.int 1)]))
  obtain ⟨fs, hr, hrun, hended, hW, hsame⟩ := X3.leave (v := some (.int 1)) (fun h => by rw [Bd.returns] at h; cases h)
  refine ⟨_, _, ?_, hrun, hended, _, _, rfl, ?_, ⟨_, rfl⟩, hW, hsame.mono (by decide) (by decide)⟩
  · exact retI X3 hx Bd.returns (hb hby d17_10) hr
  · show Q_slength1 _ _ _ _ _ _ _ _ _ T3.heap _
    rw [e3]
    exact ⟨rfl, N3, rfl⟩
def Q_ens3 (Z : State) (sb : Addr) (va : Addr) (kv : ClassId) (u0 : Int32) (u1 : Int32) (u2 : Int32) (u3 : Int32) (h0 : Heap) (n0 : Nat) (vR : Option Value) (h : Heap) (L : List Loc) : Prop := vR = none ∧ Fr n0 L ∧ h = h0
theorem ef_ens3 (m : MethodId) (x0 : Addr) (x1 : Int32) : entryFrame m #[(.ref x0), (.int x1)] 3 = mkF m 0 #[.val (.ref x0), .val (.int x1), .unset] [] := by first | (simp [entryFrame, mkF, argsToLocals, Value.category]; done) | rfl
set_option maxRecDepth 65536 in
set_option maxHeartbeats 40000000 in
theorem rm_ens3 (l : Launch) (Z : State) (a0 : Array Value) (hw : ∀ d ∈ tables_1, d.before a0 Z = true) (ws : List Jvm.Cond) (sb : Addr) (va : Addr) (kv : ClassId) (u0 : Int32) (u1 : Int32) (u2 : Int32) (u3 : Int32) (h0 : Heap) (n0 : Nat) (Z0 : n0 ≤ h0.size) (H0 : Fld Z h0 sb "java/lang/AbstractStringBuilder" "value" "[B" (.ref va)) (H1 : Fld Z h0 sb "java/lang/AbstractStringBuilder" "coder" "B" (.int 0)) (H2 : Arv Z h0 va kv .byte (16 : Int32) [(.int u0), (.int u1), (.int u2), (.int u3)] (.int (0 : Int32))) :
    MetFree l (⟨"java/lang/AbstractStringBuilder", "ensureCapacityInternal", "(I)V"⟩ : MethodName) (head1 (Jvm.Cond.code (⟨"java/lang/AbstractStringBuilder", "ensureCapacityInternal", "(I)V"⟩ : MethodName) jdk_68_method_9_code 3 none :: ws) ({ frames := 0, cells := 0, slots := 0, locals := 0 } : Room)) (fun a U => a = #[(.ref sb), (.int 3)] ∧ Z.Warmed39 U.vm ∧ U.heap = h0) (fun _ _ _ _ _ => True) (fun _ U o U' => ∃ v L, o = .returned v ∧ Q_ens3 Z sb va kv u0 u1 u2 u3 h0 n0 v U'.heap L ∧ FrameEnd U o U' L ({ frames := 0, cells := 0, slots := 0, locals := 0 } : Room).cells ({ frames := 0, cells := 0, slots := 0, locals := 0 } : Room).slots) := by
  refine MetFree.of_bodySF (plainFor_of_name pn_java_lang_AbstractStringBuilder) hisR ?_
  intro p e s m args below meth c s₁ Bd hml0 hP hK
  obtain ⟨rfl, hZ, hh⟩ := hP
  have hx := Bd.exec
  have hby := Bd.bytes
  have hml : c.maxLocals = 3 := hml0
  have hown : s.vm.findClass "java/lang/AbstractStringBuilder" = some m.cls := findClass_of_methodNamed Bd.named
  have hnm := (name_of_methodNamed Bd.named Bd.method).1
  have X0 : Stand p l e ({ frames := 0, cells := 0, slots := 0, locals := 0 } : Room) s m #[(.ref sb), (.int 3)] below meth c s₁ [] 0 0 := Stand.of_body Bd
  have e0 : s₁.heap = h0 := by rw [← hh, Bd.state]; rfl
  have N0 := Fr.nil n0
  refine go_st (fun t k => castTop (ef_ens3 m sb (3 : Int32)) k) ?_
  show Go _ _ _ _ (s₁.setTop (mkF m 0 #[rv sb, iv 3, .unset] []))
  refine go_st (fun t k => XS.aloadN X0.here hx rfl (hb hby d19_0) rfl rfl k) ?_
  show Go _ _ _ _ (s₁.setTop (mkF m 1 #[rv sb, iv 3, .unset] [(.ref sb)]))
  obtain ⟨T1, X1, e1, st1⟩ := getF X0 hx hZ hown (host := "") (Or.inl (w145 hw)) Via.refl e0 H0 (g := (mkF m 1 #[rv sb, iv 3, .unset] [(.ref sb)])) rfl rfl (hb hby d19_1)
  refine go_st (fun t k => st1 t k) ?_
  show Go _ _ _ _ (T1.setTop (mkF m 4 #[rv sb, iv 3, .unset] [(.ref va)]))
  obtain ⟨zc2, zA2, zq2, zS2, zN2, zH2, zG2⟩ := id H2
  refine go_st (fun t k => X1.arraylength hx (by rw [e1]; exact zA2.1) (State.isArrayOf_alike hZ.alike zA2.2.1) (g := (mkF m 4 #[rv sb, iv 3, .unset] [(.ref va)])) rfl rfl (hb hby d19_4) t k) ?_
  rw [len_of zS2 zN2]
  show Go _ _ _ _ (T1.setTop (mkF m 5 #[rv sb, iv 3, .unset] [(.int 16)]))
  refine go_st (fun t k => XS.aloadN X1.here hx rfl (hb hby d19_5) rfl rfl k) ?_
  show Go _ _ _ _ (T1.setTop (mkF m 6 #[rv sb, iv 3, .unset] [(.ref sb), (.int 16)]))
  obtain ⟨T3, X3, e3, st3⟩ := getF X1 hx hZ hown (host := "") (Or.inl (w147 hw)) Via.refl e1 H1 (g := (mkF m 6 #[rv sb, iv 3, .unset] [(.ref sb), (.int 16)])) rfl rfl (hb hby d19_6)
  refine go_st (fun t k => st3 t k) ?_
  show Go _ _ _ _ (T3.setTop (mkF m 9 #[rv sb, iv 3, .unset] [(.int 0), (.int 16)]))
  refine go_st (fun t k => XS.ishr X3.here hx rfl (hb hby d19_9) rfl k) ?_
  rw [show ((16 : Int32) >>> ((0 : Int32) &&& 31)) = (16 : Int32) from by decide]
  show Go _ _ _ _ (T3.setTop (mkF m 10 #[rv sb, iv 3, .unset] [(.int 16)]))
  refine go_st (fun t k => XS.istoreN X3.here hx rfl (hb hby d19_10) rfl (l' := #[rv sb, iv 3, iv 16]) rfl k) ?_
  show Go _ _ _ _ (T3.setTop (mkF m 11 #[rv sb, iv 3, iv 16] []))
  refine go_st (fun t k => XS.iloadN X3.here hx rfl (hb hby d19_11) rfl k) ?_
  show Go _ _ _ _ (T3.setTop (mkF m 12 #[rv sb, iv 3, iv 16] [(.int 3)]))
  refine go_st (fun t k => XS.iloadN X3.here hx rfl (hb hby d19_12) rfl k) ?_
  show Go _ _ _ _ (T3.setTop (mkF m 13 #[rv sb, iv 3, iv 16] [(.int 16), (.int 3)]))
  refine go_st (fun t k => XS.isub X3.here hx rfl (hb hby d19_13) rfl k) ?_
  rw [show ((3 : Int32) - (16 : Int32)) = (-13 : Int32) from by decide]
  show Go _ _ _ _ (T3.setTop (mkF m 14 #[rv sb, iv 3, iv 16] [(.int (-13))]))
  refine go_st (fun t k => XS.ifYes X3.here hx rfl (pc0 := 14) (pc' := 38) rfl (hb hby d19_14) rfl ((if0 _ _).trans (flt ((by decide) : ¬ ((0 : Int32) < (-13 : Int32)))).2.2.2) (by decide) (by decide) k) ?_
  show Go _ _ _ _ (T3.setTop (mkF m 38 #[rv sb, iv 3, iv 16] []))
  obtain ⟨fs, hr, hrun, hended, hW, hsame⟩ := X3.leave (v := none) (fun _ => rfl)
  refine ⟨_, _, ?_, hrun, hended, _, _, rfl, ?_, ⟨_, rfl⟩, hW, hsame.mono (by decide) (by decide)⟩
  · exact X3.returnOut hx Bd.returns (hb hby d19_38) hr
  · show Q_ens3 _ _ _ _ _ _ _ _ _ _ _ T3.heap _
    rw [e3]
    exact ⟨rfl, N0, rfl⟩
def Q_gby2_1 (Z : State) (xs : Addr) (xt : Addr) (kx : ClassId) (y0 : Int32) (va : Addr) (kv : ClassId) (u0 : Int32) (u1 : Int32) (u2 : Int32) (u3 : Int32) (G1 : Int32) (h0 : Heap) (n0 : Nat) (vR : Option Value) (h : Heap) (L : List Loc) : Prop := vR = none ∧ Fr n0 L ∧ Keep h0 h [va] ∧ (Arv Z h va kv .byte (16 : Int32) [(.int u0), (.int u1), (.int y0), (.int u3)] (.int (0 : Int32)))
theorem ef_gby2_1 (m : MethodId) (x0 : Addr) (x1 : Addr) (x2 : Int32) (x3 : Int32) : entryFrame m #[(.ref x0), (.ref x1), (.int x2), (.int x3)] 4 = mkF m 0 #[.val (.ref x0), .val (.ref x1), .val (.int x2), .val (.int x3)] [] := by first | (simp [entryFrame, mkF, argsToLocals, Value.category]; done) | rfl
set_option maxRecDepth 65536 in
set_option maxHeartbeats 40000000 in
theorem rm_gby2_1 (l : Launch) (Z : State) (a0 : Array Value) (hw : ∀ d ∈ tables_1, d.before a0 Z = true) (ws : List Jvm.Cond) (xs : Addr) (xt : Addr) (kx : ClassId) (y0 : Int32) (va : Addr) (kv : ClassId) (u0 : Int32) (u1 : Int32) (u2 : Int32) (u3 : Int32) (G1 : Int32) (h0 : Heap) (n0 : Nat) (Z0 : n0 ≤ h0.size) (H0 : Exa Z h0 xs "java/lang/String") (H1 : Fld Z h0 xs "java/lang/String" "value" "[B" (.ref xt)) (H2 : Fld Z h0 xs "java/lang/String" "coder" "B" (.int 0)) (H3 : Arv Z h0 xt kx .byte (1 : Int32) [(.int y0)] (.int (0 : Int32))) (H4 : Arv Z h0 va kv .byte (16 : Int32) [(.int u0), (.int u1), (.int u2), (.int u3)] (.int (0 : Int32))) (g_va : n0 ≤ va) (CS : Sta Z Z.heap "java/lang/String" "COMPACT_STRINGS" "Z" (.int G1)) (CSn : ¬ (G1 = (0 : Int32))) (O0 : Old Z n0 h0) :
    MetFree l (⟨"java/lang/String", "getBytes", "([BIB)V"⟩ : MethodName) (head1 (Jvm.Cond.code (⟨"java/lang/String", "getBytes", "([BIB)V"⟩ : MethodName) jdk_42_method_147_code 4 none :: ws) ({ frames := 1, cells := 0, slots := 0, locals := 18 } : Room)) (fun a U => a = #[(.ref xs), (.ref va), (.int 2), (.int 0)] ∧ Z.Warmed39 U.vm ∧ U.heap = h0) (fun _ _ _ _ _ => True) (fun _ U o U' => ∃ v L, o = .returned v ∧ Q_gby2_1 Z xs xt kx y0 va kv u0 u1 u2 u3 G1 h0 n0 v U'.heap L ∧ FrameEnd U o U' L ({ frames := 1, cells := 0, slots := 0, locals := 18 } : Room).cells ({ frames := 1, cells := 0, slots := 0, locals := 18 } : Room).slots) := by
  refine MetFree.of_bodySF (plainFor_of_name pn_java_lang_String) hisR ?_
  intro p e s m args below meth c s₁ Bd hml0 hP hK
  obtain ⟨rfl, hZ, hh⟩ := hP
  have hx := Bd.exec
  have hby := Bd.bytes
  have hml : c.maxLocals = 4 := hml0
  have hown : s.vm.findClass "java/lang/String" = some m.cls := findClass_of_methodNamed Bd.named
  have hnm := (name_of_methodNamed Bd.named Bd.method).1
  have X0 : Stand p l e ({ frames := 1, cells := 0, slots := 0, locals := 18 } : Room) s m #[(.ref xs), (.ref va), (.int 2), (.int 0)] below meth c s₁ [] 0 0 := Stand.of_body Bd
  have e0 : s₁.heap = h0 := by rw [← hh, Bd.state]; rfl
  have N0 := Fr.nil n0
  refine go_st (fun t k => castTop (ef_gby2_1 m xs va (2 : Int32) (0 : Int32)) k) ?_
  show Go _ _ _ _ (s₁.setTop (mkF m 0 #[rv xs, rv va, iv 2, iv 0] []))
  refine go_st (fun t k => XS.aloadN X0.here hx rfl (hb hby d22_0) rfl rfl k) ?_
  show Go _ _ _ _ (s₁.setTop (mkF m 1 #[rv xs, rv va, iv 2, iv 0] [(.ref xs)]))
  obtain ⟨cq1, kq1, q1a, q1b, q1c⟩ := isOf hZ e0 H0
  obtain ⟨_, _, ⟨T1, L1, kk1, nn1⟩, -, X1, ⟨Lc1, hQ1, lq1, yq1, zq1⟩, st1⟩ := X0.virtualBack hx (y := (⟨"java/lang/String", "coder", "()B"⟩ : MethodName)) (z := (⟨"java/lang/String", "coder", "()B"⟩ : MethodName)) hown (mvT hZ (w164 hw)) (mvT hZ (w165 hw)) (nf_same (y := (⟨"java/lang/String", "coder", "()B"⟩ : MethodName)) (y' := (⟨"java/lang/String", "equals", "(Ljava/lang/Object;)Z"⟩ : MethodName)) (a0 := #[]) rfl (mvT hZ (w75 hw)) (notFace_of_selects (args := #[]) (mvT hZ (w76 hw)))) (mvT hZ (w167 hw)) (mvT hZ (w166 hw)) (by decide) (backOf (W := 0) (rm_cod l Z a0 hw [] xs G1 h0 n0 (Nat.le_trans Z0 (Nat.le_refl _)) H2 CS CSn O0) hZ (w168 hw) (w11 hw) (by decide) (by decide)) q1a q1c (g := (mkF m 1 #[rv xs, rv va, iv 2, iv 0] [(.ref xs)])) rfl (by rw [hml]; rfl) (Steps.refl _) (argsL := []) (rest := []) (lenOf pd_4 rfl) rfl (by show 2 * 0 + _ ≤ _; exact Nat.le_of_eq rfl) (hb hby d22_1) (fun _ _ => ⟨rfl, e0, (by decide : 0 + 0 ≤ _), (by decide : 0 + 0 ≤ _)⟩)
  dsimp only [Pt.U, Pt.locs, Pt.cells, Pt.slots] at X1 lq1 yq1 zq1 st1 hQ1
  obtain rfl : kk1 = 0 := yq1
  obtain rfl : nn1 = 0 := zq1
  obtain ⟨h1, e1⟩ : ∃ z, T1.heap = z := ⟨_, rfl⟩
  rw [e1] at hQ1
  obtain ⟨rfl, N1q, he1⟩ := hQ1
  have N1 : Fr n0 L1 := by rw [lq1]; exact Fr.app N0 N1q
  rw [he1] at e1
  refine go_tr st1 ?_
  show Go _ _ _ _ (T1.setTop (mkF m 4 #[rv xs, rv va, iv 2, iv 0] [(.int 0)]))
  refine go_st (fun t k => XS.iloadN X1.here hx rfl (hb hby d22_4) rfl k) ?_
  show Go _ _ _ _ (T1.setTop (mkF m 5 #[rv xs, rv va, iv 2, iv 0] [(.int 0), (.int 0)]))
  refine go_st (fun t k => XS.icmpNo X1.here hx rfl (hb hby d22_5) rfl (teq ((by decide) : (0 : Int32) = (0 : Int32))).2 k) ?_
  show Go _ _ _ _ (T1.setTop (mkF m 8 #[rv xs, rv va, iv 2, iv 0] []))
  refine go_st (fun t k => XS.aloadN X1.here hx rfl (hb hby d22_8) rfl rfl k) ?_
  show Go _ _ _ _ (T1.setTop (mkF m 9 #[rv xs, rv va, iv 2, iv 0] [(.ref xs)]))
  obtain ⟨T2, X2, e2, st2⟩ := getF X1 hx hZ hown (host := "") (Or.inl (w36 hw)) Via.refl e1 H1 (g := (mkF m 9 #[rv xs, rv va, iv 2, iv 0] [(.ref xs)])) rfl rfl (hb hby d22_9)
  refine go_st (fun t k => st2 t k) ?_
  show Go _ _ _ _ (T2.setTop (mkF m 12 #[rv xs, rv va, iv 2, iv 0] [(.ref xt)]))
  refine go_st (fun t k => XS.iconst X2.here hx rfl (hb hby d22_12) k) ?_
  show Go _ _ _ _ (T2.setTop (mkF m 13 #[rv xs, rv va, iv 2, iv 0] [(.int 0), (.ref xt)]))
  refine go_st (fun t k => XS.aloadN X2.here hx rfl (hb hby d22_13) rfl rfl k) ?_
  show Go _ _ _ _ (T2.setTop (mkF m 14 #[rv xs, rv va, iv 2, iv 0] [(.ref va), (.int 0), (.ref xt)]))
  refine go_st (fun t k => XS.iloadN X2.here hx rfl (hb hby d22_14) rfl k) ?_
  show Go _ _ _ _ (T2.setTop (mkF m 15 #[rv xs, rv va, iv 2, iv 0] [(.int 2), (.ref va), (.int 0), (.ref xt)]))
  refine go_st (fun t k => XS.iloadN X2.here hx rfl (hb hby d22_15) rfl k) ?_
  show Go _ _ _ _ (T2.setTop (mkF m 16 #[rv xs, rv va, iv 2, iv 0] [(.int 0), (.int 2), (.ref va), (.int 0), (.ref xt)]))
  refine go_st (fun t k => XS.ishl X2.here hx rfl (hb hby d22_16) rfl k) ?_
  rw [show ((2 : Int32) <<< ((0 : Int32) &&& 31)) = (2 : Int32) from by decide]
  show Go _ _ _ _ (T2.setTop (mkF m 17 #[rv xs, rv va, iv 2, iv 0] [(.int 2), (.ref va), (.int 0), (.ref xt)]))
  refine go_st (fun t k => XS.aloadN X2.here hx rfl (hb hby d22_17) rfl rfl k) ?_
  show Go _ _ _ _ (T2.setTop (mkF m 18 #[rv xs, rv va, iv 2, iv 0] [(.ref xs), (.int 2), (.ref va), (.int 0), (.ref xt)]))
  obtain ⟨T3, X3, e3, st3⟩ := getF X2 hx hZ hown (host := "") (Or.inl (w36 hw)) Via.refl e2 H1 (g := (mkF m 18 #[rv xs, rv va, iv 2, iv 0] [(.ref xs), (.int 2), (.ref va), (.int 0), (.ref xt)])) rfl rfl (hb hby d22_18)
  refine go_st (fun t k => st3 t k) ?_
  show Go _ _ _ _ (T3.setTop (mkF m 21 #[rv xs, rv va, iv 2, iv 0] [(.ref xt), (.int 2), (.ref va), (.int 0), (.ref xt)]))
  obtain ⟨zc4, zA4, zq4, zS4, zN4, zH4, zG4⟩ := id H3
  refine go_st (fun t k => X3.arraylength hx (by rw [e3]; exact zA4.1) (State.isArrayOf_alike hZ.alike zA4.2.1) (g := (mkF m 21 #[rv xs, rv va, iv 2, iv 0] [(.ref xt), (.int 2), (.ref va), (.int 0), (.ref xt)])) rfl rfl (hb hby d22_21) t k) ?_
  rw [len_of zS4 zN4]
  show Go _ _ _ _ (T3.setTop (mkF m 22 #[rv xs, rv va, iv 2, iv 0] [(.int 1), (.int 2), (.ref va), (.int 0), (.ref xt)]))
  obtain ⟨T5, h5, L5, X5, e5, N5, K5, A5, st5⟩ := cpA X3 hx hZ hown (w192 hw) (w195 hw) (w193 hw) (w194 hw) e3 H3 H4 (Or.inl ⟨rfl, rfl⟩) (sp := (0 : Int32)) (dp := (2 : Int32)) (nn := (1 : Int32)) (us := [(.int y0)]) (by decide) (by decide) (by decide) (by decide) (by decide) rfl (Nat.le_of_ble_eq_true rfl) N1 g_va (g := (mkF m 22 #[rv xs, rv va, iv 2, iv 0] [(.int 1), (.int 2), (.ref va), (.int 0), (.ref xt)])) rfl (by rw [hml]; rfl) rfl (hb hby d22_22) (by decide) (W := 0) (by show 2 * 0 + _ ≤ _; exact Nat.le_of_eq rfl) (by decide)
  have f6 : Arv Z h5 va kv .byte (16 : Int32) [(.int u0), (.int u1), (.int y0), (.int u3)] (.int (0 : Int32)) := A5
  refine go_st (fun t k => st5 t k) ?_
  show Go _ _ _ _ (T5.setTop (mkF m 25 #[rv xs, rv va, iv 2, iv 0] []))
  refine go_st (fun t k => XS.goto X5.here hx rfl (pc0 := 25) (pc' := 43) rfl (hb hby d22_25) (by decide) (by decide) k) ?_
  show Go _ _ _ _ (T5.setTop (mkF m 43 #[rv xs, rv va, iv 2, iv 0] []))
  have ke7 : Keep h0 h5 [va] := (Keep.trans (Keep.refl h0 [va]) K5 (allS (Or.inl (List.mem_of_getElem? (i := 0) rfl)) all0))
  obtain ⟨fs, hr, hrun, hended, hW, hsame⟩ := X5.leave (v := none) (fun _ => rfl)
  refine ⟨_, _, ?_, hrun, hended, _, _, rfl, ?_, ⟨_, rfl⟩, hW, hsame.mono (by decide) (by decide)⟩
  · exact X5.returnOut hx Bd.returns (hb hby d22_43) hr
  · show Q_gby2_1 _ _ _ _ _ _ _ _ _ _ _ _ _ _ _ T5.heap _
    rw [e5]
    exact ⟨rfl, N5, ke7, f6⟩
def Q_psa2_1 (Z : State) (xs : Addr) (xt : Addr) (kx : ClassId) (y0 : Int32) (sb : Addr) (va : Addr) (kv : ClassId) (u0 : Int32) (u1 : Int32) (u2 : Int32) (u3 : Int32) (G1 : Int32) (h0 : Heap) (n0 : Nat) (vR : Option Value) (h : Heap) (L : List Loc) : Prop := vR = none ∧ Fr n0 L ∧ Keep h0 h [va] ∧ (Arv Z h va kv .byte (16 : Int32) [(.int u0), (.int u1), (.int y0), (.int u3)] (.int (0 : Int32)))
theorem ef_psa2_1 (m : MethodId) (x0 : Addr) (x1 : Int32) (x2 : Addr) : entryFrame m #[(.ref x0), (.int x1), (.ref x2)] 3 = mkF m 0 #[.val (.ref x0), .val (.int x1), .val (.ref x2)] [] := by first | (simp [entryFrame, mkF, argsToLocals, Value.category]; done) | rfl
set_option maxRecDepth 65536 in
set_option maxHeartbeats 40000000 in
theorem rm_psa2_1 (l : Launch) (Z : State) (a0 : Array Value) (hw : ∀ d ∈ tables_1, d.before a0 Z = true) (ws : List Jvm.Cond) (xs : Addr) (xt : Addr) (kx : ClassId) (y0 : Int32) (sb : Addr) (va : Addr) (kv : ClassId) (u0 : Int32) (u1 : Int32) (u2 : Int32) (u3 : Int32) (G1 : Int32) (h0 : Heap) (n0 : Nat) (Z0 : n0 ≤ h0.size) (H0 : Exa Z h0 xs "java/lang/String") (H1 : Fld Z h0 xs "java/lang/String" "value" "[B" (.ref xt)) (H2 : Fld Z h0 xs "java/lang/String" "coder" "B" (.int 0)) (H3 : Arv Z h0 xt kx .byte (1 : Int32) [(.int y0)] (.int (0 : Int32))) (H4 : Exa Z h0 sb "java/lang/StringBuilder") (H5 : Fld Z h0 sb "java/lang/AbstractStringBuilder" "value" "[B" (.ref va)) (H6 : Fld Z h0 sb "java/lang/AbstractStringBuilder" "coder" "B" (.int 0)) (H7 : Fld Z h0 sb "java/lang/AbstractStringBuilder" "count" "I" (.int 2)) (H8 : Arv Z h0 va kv .byte (16 : Int32) [(.int u0), (.int u1), (.int u2), (.int u3)] (.int (0 : Int32))) (g_sb : n0 ≤ sb) (g_va : n0 ≤ va) (CS : Sta Z Z.heap "java/lang/String" "COMPACT_STRINGS" "Z" (.int G1)) (CSn : ¬ (G1 = (0 : Int32))) (O0 : Old Z n0 h0) :
    MetFree l (⟨"java/lang/AbstractStringBuilder", "putStringAt", "(ILjava/lang/String;)V"⟩ : MethodName) (head1 (Jvm.Cond.code (⟨"java/lang/AbstractStringBuilder", "putStringAt", "(ILjava/lang/String;)V"⟩ : MethodName) jdk_68_method_73_code 3 none :: ws) ({ frames := 2, cells := 0, slots := 0, locals := 33 } : Room)) (fun a U => a = #[(.ref sb), (.int 2), (.ref xs)] ∧ Z.Warmed39 U.vm ∧ U.heap = h0) (fun _ _ _ _ _ => True) (fun _ U o U' => ∃ v L, o = .returned v ∧ Q_psa2_1 Z xs xt kx y0 sb va kv u0 u1 u2 u3 G1 h0 n0 v U'.heap L ∧ FrameEnd U o U' L ({ frames := 2, cells := 0, slots := 0, locals := 33 } : Room).cells ({ frames := 2, cells := 0, slots := 0, locals := 33 } : Room).slots) := by
  refine MetFree.of_bodySF (plainFor_of_name pn_java_lang_AbstractStringBuilder) hisR ?_
  intro p e s m args below meth c s₁ Bd hml0 hP hK
  obtain ⟨rfl, hZ, hh⟩ := hP
  have hx := Bd.exec
  have hby := Bd.bytes
  have hml : c.maxLocals = 3 := hml0
  have hown : s.vm.findClass "java/lang/AbstractStringBuilder" = some m.cls := findClass_of_methodNamed Bd.named
  have hnm := (name_of_methodNamed Bd.named Bd.method).1
  have X0 : Stand p l e ({ frames := 2, cells := 0, slots := 0, locals := 33 } : Room) s m #[(.ref sb), (.int 2), (.ref xs)] below meth c s₁ [] 0 0 := Stand.of_body Bd
  have e0 : s₁.heap = h0 := by rw [← hh, Bd.state]; rfl
  have N0 := Fr.nil n0
  refine go_st (fun t k => castTop (ef_psa2_1 m sb (2 : Int32) xs) k) ?_
  show Go _ _ _ _ (s₁.setTop (mkF m 0 #[rv sb, iv 2, rv xs] []))
  refine go_st (fun t k => XS.aloadN X0.here hx rfl (hb hby d20_0) rfl rfl k) ?_
  show Go _ _ _ _ (s₁.setTop (mkF m 1 #[rv sb, iv 2, rv xs] [(.ref sb)]))
  refine go_st (fun t k => XS.aloadN X0.here hx rfl (hb hby d20_1) rfl rfl k) ?_
  show Go _ _ _ _ (s₁.setTop (mkF m 2 #[rv sb, iv 2, rv xs] [(.ref xs), (.ref sb)]))
  obtain ⟨cq1, q1, q1'⟩ := H4.cell
  obtain ⟨_, _, ⟨T1, L1, kk1, nn1⟩, -, X1, ⟨Lc1, hQ1, lq1, yq1, zq1⟩, st1⟩ := X0.privateBack hx (y := (⟨"java/lang/AbstractStringBuilder", "inflateIfNeededFor", "(Ljava/lang/String;)V"⟩ : MethodName)) hown (mvT hZ (w181 hw)) (mvT hZ (w182 hw)) (mvT hZ (sel_priv (w183 hw) (w182 hw) (nf_same (y := (⟨"java/lang/AbstractStringBuilder", "inflateIfNeededFor", "(Ljava/lang/String;)V"⟩ : MethodName)) (y' := (⟨"java/lang/AbstractStringBuilder", "ensureCapacityInternal", "(I)V"⟩ : MethodName)) rfl (w172 hw) (notFace_of_selects (w174 hw))) (by decide))) (Cond.privateMethod_at (mvP hZ (w183 hw) (args := #[]))) (mvT hZ (w185 hw)) (by decide) (backOf (W := 0) (rm_inf l Z a0 hw [] sb xs G1 h0 n0 (Nat.le_trans Z0 (Nat.le_refl _)) H6 H0 H2 CS CSn O0) hZ (w185 hw) (w141 hw) (by decide) (by decide)) (g := (mkF m 2 #[rv sb, iv 2, rv xs] [(.ref xs), (.ref sb)])) rfl (by rw [hml]; rfl) (Steps.refl _) (a := sb) (by rw [e0]; exact q1) q1' (argsL := [(.ref xs)]) (rest := []) (lenOf pd_6 rfl) rfl (by show 2 * 0 + _ ≤ _; exact Nat.le_of_eq rfl) (hb hby d20_2) (fun _ _ => ⟨rfl, e0, (by decide : 0 + 0 ≤ _), (by decide : 0 + 0 ≤ _)⟩)
  dsimp only [Pt.U, Pt.locs, Pt.cells, Pt.slots] at X1 lq1 yq1 zq1 st1 hQ1
  obtain rfl : kk1 = 0 := yq1
  obtain rfl : nn1 = 0 := zq1
  obtain ⟨h1, e1⟩ : ∃ z, T1.heap = z := ⟨_, rfl⟩
  rw [e1] at hQ1
  obtain ⟨rfl, N1q, he1⟩ := hQ1
  have N1 : Fr n0 L1 := by rw [lq1]; exact Fr.app N0 N1q
  rw [he1] at e1
  refine go_tr st1 ?_
  show Go _ _ _ _ (T1.setTop (mkF m 5 #[rv sb, iv 2, rv xs] []))
  refine go_st (fun t k => XS.aloadN X1.here hx rfl (hb hby d20_5) rfl rfl k) ?_
  show Go _ _ _ _ (T1.setTop (mkF m 6 #[rv sb, iv 2, rv xs] [(.ref xs)]))
  refine go_st (fun t k => XS.aloadN X1.here hx rfl (hb hby d20_6) rfl rfl k) ?_
  show Go _ _ _ _ (T1.setTop (mkF m 7 #[rv sb, iv 2, rv xs] [(.ref sb), (.ref xs)]))
  obtain ⟨T2, X2, e2, st2⟩ := getF X1 hx hZ hown (host := "") (Or.inl (w145 hw)) Via.refl e1 H5 (g := (mkF m 7 #[rv sb, iv 2, rv xs] [(.ref sb), (.ref xs)])) rfl rfl (hb hby d20_7)
  refine go_st (fun t k => st2 t k) ?_
  show Go _ _ _ _ (T2.setTop (mkF m 10 #[rv sb, iv 2, rv xs] [(.ref va), (.ref xs)]))
  refine go_st (fun t k => XS.iloadN X2.here hx rfl (hb hby d20_10) rfl k) ?_
  show Go _ _ _ _ (T2.setTop (mkF m 11 #[rv sb, iv 2, rv xs] [(.int 2), (.ref va), (.ref xs)]))
  refine go_st (fun t k => XS.aloadN X2.here hx rfl (hb hby d20_11) rfl rfl k) ?_
  show Go _ _ _ _ (T2.setTop (mkF m 12 #[rv sb, iv 2, rv xs] [(.ref sb), (.int 2), (.ref va), (.ref xs)]))
  obtain ⟨T3, X3, e3, st3⟩ := getF X2 hx hZ hown (host := "") (Or.inl (w147 hw)) Via.refl e2 H6 (g := (mkF m 12 #[rv sb, iv 2, rv xs] [(.ref sb), (.int 2), (.ref va), (.ref xs)])) rfl rfl (hb hby d20_12)
  refine go_st (fun t k => st3 t k) ?_
  show Go _ _ _ _ (T3.setTop (mkF m 15 #[rv sb, iv 2, rv xs] [(.int 0), (.int 2), (.ref va), (.ref xs)]))
  obtain ⟨cq4, kq4, q4a, q4b, q4c⟩ := isOf hZ e3 H0
  obtain ⟨_, _, ⟨T4, L4, kk4, nn4⟩, -, X4, ⟨Lc4, hQ4, lq4, yq4, zq4⟩, st4⟩ := X3.virtualBack hx (y := (⟨"java/lang/String", "getBytes", "([BIB)V"⟩ : MethodName)) (z := (⟨"java/lang/String", "getBytes", "([BIB)V"⟩ : MethodName)) hown (mvT hZ (w187 hw)) (mvT hZ (w188 hw)) (nf_same (y := (⟨"java/lang/String", "getBytes", "([BIB)V"⟩ : MethodName)) (y' := (⟨"java/lang/String", "equals", "(Ljava/lang/Object;)Z"⟩ : MethodName)) (a0 := #[]) rfl (mvT hZ (w75 hw)) (notFace_of_selects (args := #[]) (mvT hZ (w76 hw)))) (mvT hZ (w190 hw)) (mvT hZ (w189 hw)) (by decide) (backOf (W := 0) (rm_gby2_1 l Z a0 hw [] xs xt kx y0 va kv u0 u1 u2 u3 G1 h0 n0 (Nat.le_trans Z0 (Nat.le_refl _)) H0 H1 H2 H3 H8 g_va CS CSn O0) hZ (w191 hw) (w11 hw) (by decide) (by decide)) q4a q4c (g := (mkF m 15 #[rv sb, iv 2, rv xs] [(.int 0), (.int 2), (.ref va), (.ref xs)])) rfl (by rw [hml]; rfl) (Steps.refl _) (argsL := [(.ref va), (.int 2), (.int 0)]) (rest := []) (lenOf pd_7 rfl) rfl (by show 2 * 0 + _ ≤ _; exact Nat.le_of_eq rfl) (hb hby d20_15) (fun _ _ => ⟨rfl, e3, (by decide : 0 + 0 ≤ _), (by decide : 0 + 0 ≤ _)⟩)
  dsimp only [Pt.U, Pt.locs, Pt.cells, Pt.slots] at X4 lq4 yq4 zq4 st4 hQ4
  obtain rfl : kk4 = 0 := yq4
  obtain rfl : nn4 = 0 := zq4
  obtain ⟨h4, e4⟩ : ∃ z, T4.heap = z := ⟨_, rfl⟩
  rw [e4] at hQ4
  obtain ⟨rfl, N4q, K4, p4_0⟩ := hQ4
  have N4 : Fr n0 L4 := by rw [lq4]; exact Fr.app N1 N4q
  refine go_tr st4 ?_
  show Go _ _ _ _ (T4.setTop (mkF m 18 #[rv sb, iv 2, rv xs] []))
  have ke5 : Keep h0 h4 [va] := (Keep.trans (Keep.refl h0 [va]) K4 (allS (Or.inl (List.mem_of_getElem? (i := 0) rfl)) all0))
  obtain ⟨fs, hr, hrun, hended, hW, hsame⟩ := X4.leave (v := none) (fun _ => rfl)
  refine ⟨_, _, ?_, hrun, hended, _, _, rfl, ?_, ⟨_, rfl⟩, hW, hsame.mono (by decide) (by decide)⟩
  · exact X4.returnOut hx Bd.returns (hb hby d20_18) hr
  · show Q_psa2_1 _ _ _ _ _ _ _ _ _ _ _ _ _ _ _ _ T4.heap _
    rw [e4]
    exact ⟨rfl, N4, ke5, p4_0⟩
def Q_asbaps2_1 (Z : State) (xs : Addr) (xt : Addr) (kx : ClassId) (y0 : Int32) (sb : Addr) (va : Addr) (kv : ClassId) (u0 : Int32) (u1 : Int32) (u2 : Int32) (u3 : Int32) (G1 : Int32) (h0 : Heap) (n0 : Nat) (vR : Option Value) (h : Heap) (L : List Loc) : Prop := vR = some (.ref sb) ∧ Fr n0 L ∧ Keep h0 h [sb, va] ∧ (Exa Z h sb "java/lang/StringBuilder") ∧ (Fld Z h sb "java/lang/AbstractStringBuilder" "value" "[B" (.ref va)) ∧ (Fld Z h sb "java/lang/AbstractStringBuilder" "coder" "B" (.int 0)) ∧ (Fld Z h sb "java/lang/AbstractStringBuilder" "count" "I" (.int 3)) ∧ (Arv Z h va kv .byte (16 : Int32) [(.int u0), (.int u1), (.int y0), (.int u3)] (.int (0 : Int32)))
theorem ef_asbaps2_1 (m : MethodId) (x0 : Addr) (x1 : Addr) : entryFrame m #[(.ref x0), (.ref x1)] 3 = mkF m 0 #[.val (.ref x0), .val (.ref x1), .unset] [] := by first | (simp [entryFrame, mkF, argsToLocals, Value.category]; done) | rfl
set_option maxRecDepth 65536 in
set_option maxHeartbeats 40000000 in
theorem rm_asbaps2_1 (l : Launch) (Z : State) (a0 : Array Value) (hw : ∀ d ∈ tables_1, d.before a0 Z = true) (ws : List Jvm.Cond) (xs : Addr) (xt : Addr) (kx : ClassId) (y0 : Int32) (sb : Addr) (va : Addr) (kv : ClassId) (u0 : Int32) (u1 : Int32) (u2 : Int32) (u3 : Int32) (G1 : Int32) (h0 : Heap) (n0 : Nat) (Z0 : n0 ≤ h0.size) (H0 : Exa Z h0 xs "java/lang/String") (H1 : Fld Z h0 xs "java/lang/String" "value" "[B" (.ref xt)) (H2 : Fld Z h0 xs "java/lang/String" "coder" "B" (.int 0)) (H3 : Arv Z h0 xt kx .byte (1 : Int32) [(.int y0)] (.int (0 : Int32))) (H4 : Exa Z h0 sb "java/lang/StringBuilder") (H5 : Fld Z h0 sb "java/lang/AbstractStringBuilder" "value" "[B" (.ref va)) (H6 : Fld Z h0 sb "java/lang/AbstractStringBuilder" "coder" "B" (.int 0)) (H7 : Fld Z h0 sb "java/lang/AbstractStringBuilder" "count" "I" (.int 2)) (H8 : Arv Z h0 va kv .byte (16 : Int32) [(.int u0), (.int u1), (.int u2), (.int u3)] (.int (0 : Int32))) (g_sb : n0 ≤ sb) (g_va : n0 ≤ va) (CS : Sta Z Z.heap "java/lang/String" "COMPACT_STRINGS" "Z" (.int G1)) (CSn : ¬ (G1 = (0 : Int32))) (O0 : Old Z n0 h0) :
    MetFree l (⟨"java/lang/AbstractStringBuilder", "append", "(Ljava/lang/String;)Ljava/lang/AbstractStringBuilder;"⟩ : MethodName) (head1 (Jvm.Cond.code (⟨"java/lang/AbstractStringBuilder", "append", "(Ljava/lang/String;)Ljava/lang/AbstractStringBuilder;"⟩ : MethodName) jdk_68_method_22_code 3 (some (.object "java/lang/AbstractStringBuilder")) :: ws) ({ frames := 3, cells := 0, slots := 0, locals := 47 } : Room)) (fun a U => a = #[(.ref sb), (.ref xs)] ∧ Z.Warmed39 U.vm ∧ U.heap = h0) (fun _ _ _ _ _ => True) (fun _ U o U' => ∃ v L, o = .returned v ∧ Q_asbaps2_1 Z xs xt kx y0 sb va kv u0 u1 u2 u3 G1 h0 n0 v U'.heap L ∧ FrameEnd U o U' L ({ frames := 3, cells := 0, slots := 0, locals := 47 } : Room).cells ({ frames := 3, cells := 0, slots := 0, locals := 47 } : Room).slots) := by
  refine MetFree.of_bodySF (plainFor_of_name pn_java_lang_AbstractStringBuilder) hisR ?_
  intro p e s m args below meth c s₁ Bd hml0 hP hK
  obtain ⟨rfl, hZ, hh⟩ := hP
  have hx := Bd.exec
  have hby := Bd.bytes
  have hml : c.maxLocals = 3 := hml0
  have hown : s.vm.findClass "java/lang/AbstractStringBuilder" = some m.cls := findClass_of_methodNamed Bd.named
  have hnm := (name_of_methodNamed Bd.named Bd.method).1
  have X0 : Stand p l e ({ frames := 3, cells := 0, slots := 0, locals := 47 } : Room) s m #[(.ref sb), (.ref xs)] below meth c s₁ [] 0 0 := Stand.of_body Bd
  have e0 : s₁.heap = h0 := by rw [← hh, Bd.state]; rfl
  have N0 := Fr.nil n0
  refine go_st (fun t k => castTop (ef_asbaps2_1 m sb xs) k) ?_
  show Go _ _ _ _ (s₁.setTop (mkF m 0 #[rv sb, rv xs, .unset] []))
  refine go_st (fun t k => XS.aloadN X0.here hx rfl (hb hby d16_0) rfl rfl k) ?_
  show Go _ _ _ _ (s₁.setTop (mkF m 1 #[rv sb, rv xs, .unset] [(.ref xs)]))
  refine go_st (fun t k => XS.ifnonnullYes X0.here hx rfl (pc0 := 1) (pc' := 9) rfl (hb hby d16_1) rfl (by decide) (by decide) k) ?_
  show Go _ _ _ _ (s₁.setTop (mkF m 9 #[rv sb, rv xs, .unset] []))
  refine go_st (fun t k => XS.aloadN X0.here hx rfl (hb hby d16_9) rfl rfl k) ?_
  show Go _ _ _ _ (s₁.setTop (mkF m 10 #[rv sb, rv xs, .unset] [(.ref xs)]))
  obtain ⟨cq1, kq1, q1a, q1b, q1c⟩ := isOf hZ e0 H0
  obtain ⟨_, _, ⟨T1, L1, kk1, nn1⟩, -, X1, ⟨Lc1, hQ1, lq1, yq1, zq1⟩, st1⟩ := X0.virtualBack hx (y := (⟨"java/lang/String", "length", "()I"⟩ : MethodName)) (z := (⟨"java/lang/String", "length", "()I"⟩ : MethodName)) hown (mvT hZ (w159 hw)) (mvT hZ (w160 hw)) (nf_same (y := (⟨"java/lang/String", "length", "()I"⟩ : MethodName)) (y' := (⟨"java/lang/String", "equals", "(Ljava/lang/Object;)Z"⟩ : MethodName)) (a0 := #[]) rfl (mvT hZ (w75 hw)) (notFace_of_selects (args := #[]) (mvT hZ (w76 hw)))) (mvT hZ (w162 hw)) (mvT hZ (w161 hw)) (by decide) (backOf (W := 0) (rm_slength1 l Z a0 hw [] xs xt kx y0 G1 h0 n0 (Nat.le_trans Z0 (Nat.le_refl _)) H0 H1 H2 H3 CS CSn O0) hZ (w163 hw) (w11 hw) (by decide) (by decide)) q1a q1c (g := (mkF m 10 #[rv sb, rv xs, .unset] [(.ref xs)])) rfl (by rw [hml]; rfl) (Steps.refl _) (argsL := []) (rest := []) (lenOf pd_5 rfl) rfl (by show 2 * 0 + _ ≤ _; exact Nat.le_of_eq rfl) (hb hby d16_10) (fun _ _ => ⟨rfl, e0, (by decide : 0 + 0 ≤ _), (by decide : 0 + 0 ≤ _)⟩)
  dsimp only [Pt.U, Pt.locs, Pt.cells, Pt.slots] at X1 lq1 yq1 zq1 st1 hQ1
  obtain rfl : kk1 = 0 := yq1
  obtain rfl : nn1 = 0 := zq1
  obtain ⟨h1, e1⟩ : ∃ z, T1.heap = z := ⟨_, rfl⟩
  rw [e1] at hQ1
  obtain ⟨rfl, N1q, he1⟩ := hQ1
  have N1 : Fr n0 L1 := by rw [lq1]; exact Fr.app N0 N1q
  rw [he1] at e1
  refine go_tr st1 ?_
  show Go _ _ _ _ (T1.setTop (mkF m 13 #[rv sb, rv xs, .unset] [(.int 1)]))
  refine go_st (fun t k => XS.istoreN X1.here hx rfl (hb hby d16_13) rfl (l' := #[rv sb, rv xs, iv 1]) rfl k) ?_
  show Go _ _ _ _ (T1.setTop (mkF m 14 #[rv sb, rv xs, iv 1] []))
  refine go_st (fun t k => XS.aloadN X1.here hx rfl (hb hby d16_14) rfl rfl k) ?_
  show Go _ _ _ _ (T1.setTop (mkF m 15 #[rv sb, rv xs, iv 1] [(.ref sb)]))
  refine go_st (fun t k => XS.aloadN X1.here hx rfl (hb hby d16_15) rfl rfl k) ?_
  show Go _ _ _ _ (T1.setTop (mkF m 16 #[rv sb, rv xs, iv 1] [(.ref sb), (.ref sb)]))
  obtain ⟨T2, X2, e2, st2⟩ := getF X1 hx hZ hown (host := "") (Or.inl (w169 hw)) Via.refl e1 H7 (g := (mkF m 16 #[rv sb, rv xs, iv 1] [(.ref sb), (.ref sb)])) rfl rfl (hb hby d16_16)
  refine go_st (fun t k => st2 t k) ?_
  show Go _ _ _ _ (T2.setTop (mkF m 19 #[rv sb, rv xs, iv 1] [(.int 2), (.ref sb)]))
  refine go_st (fun t k => XS.iloadN X2.here hx rfl (hb hby d16_19) rfl k) ?_
  show Go _ _ _ _ (T2.setTop (mkF m 20 #[rv sb, rv xs, iv 1] [(.int 1), (.int 2), (.ref sb)]))
  refine go_st (fun t k => XS.iadd X2.here hx rfl (hb hby d16_20) rfl k) ?_
  rw [show ((2 : Int32) + (1 : Int32)) = (3 : Int32) from by decide]
  show Go _ _ _ _ (T2.setTop (mkF m 21 #[rv sb, rv xs, iv 1] [(.int 3), (.ref sb)]))
  obtain ⟨cq3, q3, q3'⟩ := H4.cell
  obtain ⟨_, _, ⟨T3, L3, kk3, nn3⟩, -, X3, ⟨Lc3, hQ3, lq3, yq3, zq3⟩, st3⟩ := X2.privateBack hx (y := (⟨"java/lang/AbstractStringBuilder", "ensureCapacityInternal", "(I)V"⟩ : MethodName)) hown (mvT hZ (w171 hw)) (mvT hZ (w172 hw)) (mvT hZ (sel_priv (w173 hw) (w172 hw) (notFace_of_selects (w174 hw)) (by decide))) (Cond.privateMethod_at (mvP hZ (w173 hw) (args := #[]))) (mvT hZ (w175 hw)) (by decide) (backOf (W := 0) (rm_ens3 l Z a0 hw [] sb va kv u0 u1 u2 u3 h0 n0 (Nat.le_trans Z0 (Nat.le_refl _)) H5 H6 H8) hZ (w175 hw) (w141 hw) (by decide) (by decide)) (g := (mkF m 21 #[rv sb, rv xs, iv 1] [(.int 3), (.ref sb)])) rfl (by rw [hml]; rfl) (Steps.refl _) (a := sb) (by rw [e2]; exact q3) q3' (argsL := [(.int 3)]) (rest := []) (lenOf pd_3 rfl) rfl (by show 2 * 0 + _ ≤ _; exact Nat.le_of_eq rfl) (hb hby d16_21) (fun _ _ => ⟨rfl, e2, (by decide : 0 + 0 ≤ _), (by decide : 0 + 0 ≤ _)⟩)
  dsimp only [Pt.U, Pt.locs, Pt.cells, Pt.slots] at X3 lq3 yq3 zq3 st3 hQ3
  obtain rfl : kk3 = 0 := yq3
  obtain rfl : nn3 = 0 := zq3
  obtain ⟨h3, e3⟩ : ∃ z, T3.heap = z := ⟨_, rfl⟩
  rw [e3] at hQ3
  obtain ⟨rfl, N3q, he3⟩ := hQ3
  have N3 : Fr n0 L3 := by rw [lq3]; exact Fr.app N1 N3q
  rw [he3] at e3
  refine go_tr st3 ?_
  show Go _ _ _ _ (T3.setTop (mkF m 24 #[rv sb, rv xs, iv 1] []))
  refine go_st (fun t k => XS.aloadN X3.here hx rfl (hb hby d16_24) rfl rfl k) ?_
  show Go _ _ _ _ (T3.setTop (mkF m 25 #[rv sb, rv xs, iv 1] [(.ref sb)]))
  refine go_st (fun t k => XS.aloadN X3.here hx rfl (hb hby d16_25) rfl rfl k) ?_
  show Go _ _ _ _ (T3.setTop (mkF m 26 #[rv sb, rv xs, iv 1] [(.ref sb), (.ref sb)]))
  obtain ⟨T4, X4, e4, st4⟩ := getF X3 hx hZ hown (host := "") (Or.inl (w169 hw)) Via.refl e3 H7 (g := (mkF m 26 #[rv sb, rv xs, iv 1] [(.ref sb), (.ref sb)])) rfl rfl (hb hby d16_26)
  refine go_st (fun t k => st4 t k) ?_
  show Go _ _ _ _ (T4.setTop (mkF m 29 #[rv sb, rv xs, iv 1] [(.int 2), (.ref sb)]))
  refine go_st (fun t k => XS.aloadN X4.here hx rfl (hb hby d16_29) rfl rfl k) ?_
  show Go _ _ _ _ (T4.setTop (mkF m 30 #[rv sb, rv xs, iv 1] [(.ref xs), (.int 2), (.ref sb)]))
  obtain ⟨cq5, q5, q5'⟩ := H4.cell
  obtain ⟨_, _, ⟨T5, L5, kk5, nn5⟩, -, X5, ⟨Lc5, hQ5, lq5, yq5, zq5⟩, st5⟩ := X4.privateBack hx (y := (⟨"java/lang/AbstractStringBuilder", "putStringAt", "(ILjava/lang/String;)V"⟩ : MethodName)) hown (mvT hZ (w176 hw)) (mvT hZ (w177 hw)) (mvT hZ (sel_priv (w178 hw) (w177 hw) (nf_same (y := (⟨"java/lang/AbstractStringBuilder", "putStringAt", "(ILjava/lang/String;)V"⟩ : MethodName)) (y' := (⟨"java/lang/AbstractStringBuilder", "ensureCapacityInternal", "(I)V"⟩ : MethodName)) rfl (w172 hw) (notFace_of_selects (w174 hw))) (by decide))) (Cond.privateMethod_at (mvP hZ (w178 hw) (args := #[]))) (mvT hZ (w180 hw)) (by decide) (backOf (W := 0) (rm_psa2_1 l Z a0 hw [] xs xt kx y0 sb va kv u0 u1 u2 u3 G1 h0 n0 (Nat.le_trans Z0 (Nat.le_refl _)) H0 H1 H2 H3 H4 H5 H6 H7 H8 g_sb g_va CS CSn O0) hZ (w180 hw) (w141 hw) (by decide) (by decide)) (g := (mkF m 30 #[rv sb, rv xs, iv 1] [(.ref xs), (.int 2), (.ref sb)])) rfl (by rw [hml]; rfl) (Steps.refl _) (a := sb) (by rw [e4]; exact q5) q5' (argsL := [(.int 2), (.ref xs)]) (rest := []) (lenOf pd_8 rfl) rfl (by show 2 * 0 + _ ≤ _; exact Nat.le_of_eq rfl) (hb hby d16_30) (fun _ _ => ⟨rfl, e4, (by decide : 0 + 0 ≤ _), (by decide : 0 + 0 ≤ _)⟩)
  dsimp only [Pt.U, Pt.locs, Pt.cells, Pt.slots] at X5 lq5 yq5 zq5 st5 hQ5
  obtain rfl : kk5 = 0 := yq5
  obtain rfl : nn5 = 0 := zq5
  obtain ⟨h5, e5⟩ : ∃ z, T5.heap = z := ⟨_, rfl⟩
  rw [e5] at hQ5
  obtain ⟨rfl, N5q, K5, p5_0⟩ := hQ5
  have N5 : Fr n0 L5 := by rw [lq5]; exact Fr.app N3 N5q
  refine go_tr st5 ?_
  show Go _ _ _ _ (T5.setTop (mkF m 33 #[rv sb, rv xs, iv 1] []))
  refine go_st (fun t k => XS.aloadN X5.here hx rfl (hb hby d16_33) rfl rfl k) ?_
  show Go _ _ _ _ (T5.setTop (mkF m 34 #[rv sb, rv xs, iv 1] [(.ref sb)]))
  refine go_st (fun t k => XS.dup X5.here hx rfl (hb hby d16_34) rfl rfl k) ?_
  show Go _ _ _ _ (T5.setTop (mkF m 35 #[rv sb, rv xs, iv 1] [(.ref sb), (.ref sb)]))
  have nq6 : sb ≠ va := Exa.neArv H4 H8 (w132 hw)
  have f7 : Fld Z h5 sb "java/lang/AbstractStringBuilder" "count" "I" (.int 2) := (H7.keep K5 (ninS nq6 nin0))
  obtain ⟨T8, X8, e8, st8⟩ := getF X5 hx hZ hown (host := "") (Or.inl (w169 hw)) Via.refl e5 f7 (g := (mkF m 35 #[rv sb, rv xs, iv 1] [(.ref sb), (.ref sb)])) rfl rfl (hb hby d16_35)
  refine go_st (fun t k => st8 t k) ?_
  show Go _ _ _ _ (T8.setTop (mkF m 38 #[rv sb, rv xs, iv 1] [(.int 2), (.ref sb)]))
  refine go_st (fun t k => XS.iloadN X8.here hx rfl (hb hby d16_38) rfl k) ?_
  show Go _ _ _ _ (T8.setTop (mkF m 39 #[rv sb, rv xs, iv 1] [(.int 1), (.int 2), (.ref sb)]))
  refine go_st (fun t k => XS.iadd X8.here hx rfl (hb hby d16_39) rfl k) ?_
  rw [show ((2 : Int32) + (1 : Int32)) = (3 : Int32) from by decide]
  show Go _ _ _ _ (T8.setTop (mkF m 40 #[rv sb, rv xs, iv 1] [(.int 3), (.ref sb)]))
  have f9 : Exa Z h5 sb "java/lang/StringBuilder" := (H4.keep K5)
  obtain ⟨T10, h10, X10, e10, W10, st10⟩ := putF X8 hx hZ hown (host := "") (Or.inl (w169 hw)) Via.refl e8 f7 f9 (Or.inl (w170 hw)) (w132 hw) (ty := .int) (by decide) rfl rfl (g := (mkF m 40 #[rv sb, rv xs, iv 1] [(.int 3), (.ref sb)])) rfl rfl (hb hby d16_40)
  have N10 := Fr.snoc X10 N5 g_sb
  have f11 : Fld Z h10 sb "java/lang/AbstractStringBuilder" "count" "I" (.int 3) := f7.same W10
  refine go_st (fun t k => st10 t k) ?_
  show Go _ _ _ _ (T10.setTop (mkF m 43 #[rv sb, rv xs, iv 1] []))
  refine go_st (fun t k => XS.aloadN X10.here hx rfl (hb hby d16_43) rfl rfl k) ?_
  show Go _ _ _ _ (T10.setTop (mkF m 44 #[rv sb, rv xs, iv 1] [(.ref sb)]))
  have f12 : Exa Z h10 sb "java/lang/StringBuilder" := (f9.wr W10)
  have f13 : Fld Z h10 sb "java/lang/AbstractStringBuilder" "value" "[B" (.ref va) := ((H5.keep K5 (ninS nq6 nin0)).other W10 (Or.inr (slot_ne (Or.inl (w146 hw)) (Or.inl (w170 hw)) (by decide) (t := (.array .byte)) (t' := .int) (by decide) (by decide))))
  have f14 : Fld Z h10 sb "java/lang/AbstractStringBuilder" "coder" "B" (.int 0) := ((H6.keep K5 (ninS nq6 nin0)).other W10 (Or.inr (slot_ne (Or.inl (w148 hw)) (Or.inl (w170 hw)) (by decide) (t := .byte) (t' := .int) (by decide) (by decide))))
  have f15 : Arv Z h10 va kv .byte (16 : Int32) [(.int u0), (.int u1), (.int y0), (.int u3)] (.int (0 : Int32)) := (p5_0.other W10 (Ne.symm nq6))
  have ke16 : Keep h0 h5 [sb, va] := (Keep.trans (Keep.refl h0 [sb, va]) K5 (allS (Or.inl (List.mem_of_getElem? (i := 1) rfl)) all0))
  have ke17 : Keep h0 h10 [sb, va] := (Keep.wr ke16 W10 (Or.inl (List.mem_of_getElem? (i := 0) rfl)))
  obtain ⟨fs, hr, hrun, hended, hW, hsame⟩ := X10.leave (v := some (.ref sb)) (fun h => by rw [Bd.returns] at h; cases h)
  refine ⟨_, _, ?_, hrun, hended, _, _, rfl, ?_, ⟨_, rfl⟩, hW, hsame.mono (by decide) (by decide)⟩
  · exact retOut X10 hx Bd.returns rfl (Or.inr (Or.inr (Or.inr (Or.inr ⟨rfl, rfl, rfl⟩)))) (hb hby d16_44) hr
  · show Q_asbaps2_1 _ _ _ _ _ _ _ _ _ _ _ _ _ _ _ _ T10.heap _
    rw [e10]
    exact ⟨rfl, N10, ke17, f12, f13, f14, f11, f15⟩
def Q_sbaps2_1 (Z : State) (xs : Addr) (xt : Addr) (kx : ClassId) (y0 : Int32) (sb : Addr) (va : Addr) (kv : ClassId) (u0 : Int32) (u1 : Int32) (u2 : Int32) (u3 : Int32) (G1 : Int32) (h0 : Heap) (n0 : Nat) (vR : Option Value) (h : Heap) (L : List Loc) : Prop := vR = some (.ref sb) ∧ Fr n0 L ∧ Keep h0 h [sb, va] ∧ (Exa Z h sb "java/lang/StringBuilder") ∧ (Fld Z h sb "java/lang/AbstractStringBuilder" "value" "[B" (.ref va)) ∧ (Fld Z h sb "java/lang/AbstractStringBuilder" "coder" "B" (.int 0)) ∧ (Fld Z h sb "java/lang/AbstractStringBuilder" "count" "I" (.int 3)) ∧ (Arv Z h va kv .byte (16 : Int32) [(.int u0), (.int u1), (.int y0), (.int u3)] (.int (0 : Int32)))
theorem ef_sbaps2_1 (m : MethodId) (x0 : Addr) (x1 : Addr) : entryFrame m #[(.ref x0), (.ref x1)] 2 = mkF m 0 #[.val (.ref x0), .val (.ref x1)] [] := by first | (simp [entryFrame, mkF, argsToLocals, Value.category]; done) | rfl
set_option maxRecDepth 65536 in
set_option maxHeartbeats 40000000 in
theorem rm_sbaps2_1 (l : Launch) (Z : State) (a0 : Array Value) (hw : ∀ d ∈ tables_1, d.before a0 Z = true) (ws : List Jvm.Cond) (xs : Addr) (xt : Addr) (kx : ClassId) (y0 : Int32) (sb : Addr) (va : Addr) (kv : ClassId) (u0 : Int32) (u1 : Int32) (u2 : Int32) (u3 : Int32) (G1 : Int32) (h0 : Heap) (n0 : Nat) (Z0 : n0 ≤ h0.size) (H0 : Exa Z h0 xs "java/lang/String") (H1 : Fld Z h0 xs "java/lang/String" "value" "[B" (.ref xt)) (H2 : Fld Z h0 xs "java/lang/String" "coder" "B" (.int 0)) (H3 : Arv Z h0 xt kx .byte (1 : Int32) [(.int y0)] (.int (0 : Int32))) (H4 : Exa Z h0 sb "java/lang/StringBuilder") (H5 : Fld Z h0 sb "java/lang/AbstractStringBuilder" "value" "[B" (.ref va)) (H6 : Fld Z h0 sb "java/lang/AbstractStringBuilder" "coder" "B" (.int 0)) (H7 : Fld Z h0 sb "java/lang/AbstractStringBuilder" "count" "I" (.int 2)) (H8 : Arv Z h0 va kv .byte (16 : Int32) [(.int u0), (.int u1), (.int u2), (.int u3)] (.int (0 : Int32))) (g_sb : n0 ≤ sb) (g_va : n0 ≤ va) (CS : Sta Z Z.heap "java/lang/String" "COMPACT_STRINGS" "Z" (.int G1)) (CSn : ¬ (G1 = (0 : Int32))) (O0 : Old Z n0 h0) :
    MetFree l (⟨"java/lang/StringBuilder", "append", "(Ljava/lang/String;)Ljava/lang/StringBuilder;"⟩ : MethodName) (head1 (Jvm.Cond.code (⟨"java/lang/StringBuilder", "append", "(Ljava/lang/String;)Ljava/lang/StringBuilder;"⟩ : MethodName) jdk_67_method_7_code 2 (some (.object "java/lang/StringBuilder")) :: ws) ({ frames := 4, cells := 0, slots := 0, locals := 61 } : Room)) (fun a U => a = #[(.ref sb), (.ref xs)] ∧ Z.Warmed39 U.vm ∧ U.heap = h0) (fun _ _ _ _ _ => True) (fun _ U o U' => ∃ v L, o = .returned v ∧ Q_sbaps2_1 Z xs xt kx y0 sb va kv u0 u1 u2 u3 G1 h0 n0 v U'.heap L ∧ FrameEnd U o U' L ({ frames := 4, cells := 0, slots := 0, locals := 61 } : Room).cells ({ frames := 4, cells := 0, slots := 0, locals := 61 } : Room).slots) := by
  refine MetFree.of_bodySF (plainFor_of_name pn_java_lang_StringBuilder) hisR ?_
  intro p e s m args below meth c s₁ Bd hml0 hP hK
  obtain ⟨rfl, hZ, hh⟩ := hP
  have hx := Bd.exec
  have hby := Bd.bytes
  have hml : c.maxLocals = 2 := hml0
  have hown : s.vm.findClass "java/lang/StringBuilder" = some m.cls := findClass_of_methodNamed Bd.named
  have hnm := (name_of_methodNamed Bd.named Bd.method).1
  have X0 : Stand p l e ({ frames := 4, cells := 0, slots := 0, locals := 61 } : Room) s m #[(.ref sb), (.ref xs)] below meth c s₁ [] 0 0 := Stand.of_body Bd
  have e0 : s₁.heap = h0 := by rw [← hh, Bd.state]; rfl
  have N0 := Fr.nil n0
  refine go_st (fun t k => castTop (ef_sbaps2_1 m sb xs) k) ?_
  show Go _ _ _ _ (s₁.setTop (mkF m 0 #[rv sb, rv xs] []))
  refine go_st (fun t k => XS.aloadN X0.here hx rfl (hb hby d15_0) rfl rfl k) ?_
  show Go _ _ _ _ (s₁.setTop (mkF m 1 #[rv sb, rv xs] [(.ref sb)]))
  refine go_st (fun t k => XS.aloadN X0.here hx rfl (hb hby d15_1) rfl rfl k) ?_
  show Go _ _ _ _ (s₁.setTop (mkF m 2 #[rv sb, rv xs] [(.ref xs), (.ref sb)]))
  obtain ⟨_, _, ⟨T1, L1, kk1, nn1⟩, -, X1, ⟨Lc1, hQ1, lq1, yq1, zq1⟩, st1⟩ := superBack X0 hx hZ (y := (⟨"java/lang/AbstractStringBuilder", "append", "(Ljava/lang/String;)Ljava/lang/AbstractStringBuilder;"⟩ : MethodName)) hown (w154 hw) (same_self (w155 hw) (nf_same (y := (⟨"java/lang/AbstractStringBuilder", "append", "(Ljava/lang/String;)Ljava/lang/AbstractStringBuilder;"⟩ : MethodName)) (y' := (⟨"java/lang/AbstractStringBuilder", "ensureCapacityInternal", "(I)V"⟩ : MethodName)) rfl (w172 hw) (notFace_of_selects (w174 hw))) (by decide)) (w155 hw) (w156 hw) (by decide) (backOf (W := 0) (rm_asbaps2_1 l Z a0 hw [] xs xt kx y0 sb va kv u0 u1 u2 u3 G1 h0 n0 (Nat.le_trans Z0 (Nat.le_refl _)) H0 H1 H2 H3 H4 H5 H6 H7 H8 g_sb g_va CS CSn O0) hZ (w158 hw) (w141 hw) (by decide) (by decide)) e0 (a := sb) (Ins.self H4) (g := (mkF m 2 #[rv sb, rv xs] [(.ref xs), (.ref sb)])) rfl (by rw [hml]; rfl) (w158 hw) (argsL := [(.ref xs)]) (rest := []) (lenOf pd_9 rfl) rfl (by show 2 * 0 + _ ≤ _; exact Nat.le_of_eq rfl) (hb hby d15_2) (fun _ _ => ⟨rfl, e0, (by decide : 0 + 0 ≤ _), (by decide : 0 + 0 ≤ _)⟩)
  dsimp only [Pt.U, Pt.locs, Pt.cells, Pt.slots] at X1 lq1 yq1 zq1 st1 hQ1
  obtain rfl : kk1 = 0 := yq1
  obtain rfl : nn1 = 0 := zq1
  obtain ⟨h1, e1⟩ : ∃ z, T1.heap = z := ⟨_, rfl⟩
  rw [e1] at hQ1
  obtain ⟨rfl, N1q, K1, p1_0, p1_1, p1_2, p1_3, p1_4⟩ := hQ1
  have N1 : Fr n0 L1 := by rw [lq1]; exact Fr.app N0 N1q
  refine go_tr st1 ?_
  show Go _ _ _ _ (T1.setTop (mkF m 5 #[rv sb, rv xs] [(.ref sb)]))
  refine go_st (fun t k => XS.pop X1.here hx rfl (hb hby d15_5) rfl rfl k) ?_
  show Go _ _ _ _ (T1.setTop (mkF m 6 #[rv sb, rv xs] []))
  refine go_st (fun t k => XS.aloadN X1.here hx rfl (hb hby d15_6) rfl rfl k) ?_
  show Go _ _ _ _ (T1.setTop (mkF m 7 #[rv sb, rv xs] [(.ref sb)]))
  have ke2 : Keep h0 h1 [sb, va] := (Keep.trans (Keep.refl h0 [sb, va]) K1 (allS (Or.inl (List.mem_of_getElem? (i := 0) rfl)) (allS (Or.inl (List.mem_of_getElem? (i := 1) rfl)) all0)))
  obtain ⟨fs, hr, hrun, hended, hW, hsame⟩ := X1.leave (v := some (.ref sb)) (fun h => by rw [Bd.returns] at h; cases h)
  refine ⟨_, _, ?_, hrun, hended, _, _, rfl, ?_, ⟨_, rfl⟩, hW, hsame.mono (by decide) (by decide)⟩
  · exact retOut X1 hx Bd.returns rfl (Or.inr (Or.inr (Or.inr (Or.inr ⟨rfl, rfl, rfl⟩)))) (hb hby d15_7) hr
  · show Q_sbaps2_1 _ _ _ _ _ _ _ _ _ _ _ _ _ _ _ _ T1.heap _
    rw [e1]
    exact ⟨rfl, N1, ke2, p1_0, p1_1, p1_2, p1_3, p1_4⟩
def Q_ens4 (Z : State) (sb : Addr) (va : Addr) (kv : ClassId) (u0 : Int32) (u1 : Int32) (u2 : Int32) (u3 : Int32) (h0 : Heap) (n0 : Nat) (vR : Option Value) (h : Heap) (L : List Loc) : Prop := vR = none ∧ Fr n0 L ∧ h = h0
theorem ef_ens4 (m : MethodId) (x0 : Addr) (x1 : Int32) : entryFrame m #[(.ref x0), (.int x1)] 3 = mkF m 0 #[.val (.ref x0), .val (.int x1), .unset] [] := by first | (simp [entryFrame, mkF, argsToLocals, Value.category]; done) | rfl
set_option maxRecDepth 65536 in
set_option maxHeartbeats 40000000 in
theorem rm_ens4 (l : Launch) (Z : State) (a0 : Array Value) (hw : ∀ d ∈ tables_1, d.before a0 Z = true) (ws : List Jvm.Cond) (sb : Addr) (va : Addr) (kv : ClassId) (u0 : Int32) (u1 : Int32) (u2 : Int32) (u3 : Int32) (h0 : Heap) (n0 : Nat) (Z0 : n0 ≤ h0.size) (H0 : Fld Z h0 sb "java/lang/AbstractStringBuilder" "value" "[B" (.ref va)) (H1 : Fld Z h0 sb "java/lang/AbstractStringBuilder" "coder" "B" (.int 0)) (H2 : Arv Z h0 va kv .byte (16 : Int32) [(.int u0), (.int u1), (.int u2), (.int u3)] (.int (0 : Int32))) :
    MetFree l (⟨"java/lang/AbstractStringBuilder", "ensureCapacityInternal", "(I)V"⟩ : MethodName) (head1 (Jvm.Cond.code (⟨"java/lang/AbstractStringBuilder", "ensureCapacityInternal", "(I)V"⟩ : MethodName) jdk_68_method_9_code 3 none :: ws) ({ frames := 0, cells := 0, slots := 0, locals := 0 } : Room)) (fun a U => a = #[(.ref sb), (.int 4)] ∧ Z.Warmed39 U.vm ∧ U.heap = h0) (fun _ _ _ _ _ => True) (fun _ U o U' => ∃ v L, o = .returned v ∧ Q_ens4 Z sb va kv u0 u1 u2 u3 h0 n0 v U'.heap L ∧ FrameEnd U o U' L ({ frames := 0, cells := 0, slots := 0, locals := 0 } : Room).cells ({ frames := 0, cells := 0, slots := 0, locals := 0 } : Room).slots) := by
  refine MetFree.of_bodySF (plainFor_of_name pn_java_lang_AbstractStringBuilder) hisR ?_
  intro p e s m args below meth c s₁ Bd hml0 hP hK
  obtain ⟨rfl, hZ, hh⟩ := hP
  have hx := Bd.exec
  have hby := Bd.bytes
  have hml : c.maxLocals = 3 := hml0
  have hown : s.vm.findClass "java/lang/AbstractStringBuilder" = some m.cls := findClass_of_methodNamed Bd.named
  have hnm := (name_of_methodNamed Bd.named Bd.method).1
  have X0 : Stand p l e ({ frames := 0, cells := 0, slots := 0, locals := 0 } : Room) s m #[(.ref sb), (.int 4)] below meth c s₁ [] 0 0 := Stand.of_body Bd
  have e0 : s₁.heap = h0 := by rw [← hh, Bd.state]; rfl
  have N0 := Fr.nil n0
  refine go_st (fun t k => castTop (ef_ens4 m sb (4 : Int32)) k) ?_
  show Go _ _ _ _ (s₁.setTop (mkF m 0 #[rv sb, iv 4, .unset] []))
  refine go_st (fun t k => XS.aloadN X0.here hx rfl (hb hby d19_0) rfl rfl k) ?_
  show Go _ _ _ _ (s₁.setTop (mkF m 1 #[rv sb, iv 4, .unset] [(.ref sb)]))
  obtain ⟨T1, X1, e1, st1⟩ := getF X0 hx hZ hown (host := "") (Or.inl (w145 hw)) Via.refl e0 H0 (g := (mkF m 1 #[rv sb, iv 4, .unset] [(.ref sb)])) rfl rfl (hb hby d19_1)
  refine go_st (fun t k => st1 t k) ?_
  show Go _ _ _ _ (T1.setTop (mkF m 4 #[rv sb, iv 4, .unset] [(.ref va)]))
  obtain ⟨zc2, zA2, zq2, zS2, zN2, zH2, zG2⟩ := id H2
  refine go_st (fun t k => X1.arraylength hx (by rw [e1]; exact zA2.1) (State.isArrayOf_alike hZ.alike zA2.2.1) (g := (mkF m 4 #[rv sb, iv 4, .unset] [(.ref va)])) rfl rfl (hb hby d19_4) t k) ?_
  rw [len_of zS2 zN2]
  show Go _ _ _ _ (T1.setTop (mkF m 5 #[rv sb, iv 4, .unset] [(.int 16)]))
  refine go_st (fun t k => XS.aloadN X1.here hx rfl (hb hby d19_5) rfl rfl k) ?_
  show Go _ _ _ _ (T1.setTop (mkF m 6 #[rv sb, iv 4, .unset] [(.ref sb), (.int 16)]))
  obtain ⟨T3, X3, e3, st3⟩ := getF X1 hx hZ hown (host := "") (Or.inl (w147 hw)) Via.refl e1 H1 (g := (mkF m 6 #[rv sb, iv 4, .unset] [(.ref sb), (.int 16)])) rfl rfl (hb hby d19_6)
  refine go_st (fun t k => st3 t k) ?_
  show Go _ _ _ _ (T3.setTop (mkF m 9 #[rv sb, iv 4, .unset] [(.int 0), (.int 16)]))
  refine go_st (fun t k => XS.ishr X3.here hx rfl (hb hby d19_9) rfl k) ?_
  rw [show ((16 : Int32) >>> ((0 : Int32) &&& 31)) = (16 : Int32) from by decide]
  show Go _ _ _ _ (T3.setTop (mkF m 10 #[rv sb, iv 4, .unset] [(.int 16)]))
  refine go_st (fun t k => XS.istoreN X3.here hx rfl (hb hby d19_10) rfl (l' := #[rv sb, iv 4, iv 16]) rfl k) ?_
  show Go _ _ _ _ (T3.setTop (mkF m 11 #[rv sb, iv 4, iv 16] []))
  refine go_st (fun t k => XS.iloadN X3.here hx rfl (hb hby d19_11) rfl k) ?_
  show Go _ _ _ _ (T3.setTop (mkF m 12 #[rv sb, iv 4, iv 16] [(.int 4)]))
  refine go_st (fun t k => XS.iloadN X3.here hx rfl (hb hby d19_12) rfl k) ?_
  show Go _ _ _ _ (T3.setTop (mkF m 13 #[rv sb, iv 4, iv 16] [(.int 16), (.int 4)]))
  refine go_st (fun t k => XS.isub X3.here hx rfl (hb hby d19_13) rfl k) ?_
  rw [show ((4 : Int32) - (16 : Int32)) = (-12 : Int32) from by decide]
  show Go _ _ _ _ (T3.setTop (mkF m 14 #[rv sb, iv 4, iv 16] [(.int (-12))]))
  refine go_st (fun t k => XS.ifYes X3.here hx rfl (pc0 := 14) (pc' := 38) rfl (hb hby d19_14) rfl ((if0 _ _).trans (flt ((by decide) : ¬ ((0 : Int32) < (-12 : Int32)))).2.2.2) (by decide) (by decide) k) ?_
  show Go _ _ _ _ (T3.setTop (mkF m 38 #[rv sb, iv 4, iv 16] []))
  obtain ⟨fs, hr, hrun, hended, hW, hsame⟩ := X3.leave (v := none) (fun _ => rfl)
  refine ⟨_, _, ?_, hrun, hended, _, _, rfl, ?_, ⟨_, rfl⟩, hW, hsame.mono (by decide) (by decide)⟩
  · exact X3.returnOut hx Bd.returns (hb hby d19_38) hr
  · show Q_ens4 _ _ _ _ _ _ _ _ _ _ _ T3.heap _
    rw [e3]
    exact ⟨rfl, N0, rfl⟩
def Q_gby3_1 (Z : State) (xs : Addr) (xt : Addr) (kx : ClassId) (y0 : Int32) (va : Addr) (kv : ClassId) (u0 : Int32) (u1 : Int32) (u2 : Int32) (u3 : Int32) (G1 : Int32) (h0 : Heap) (n0 : Nat) (vR : Option Value) (h : Heap) (L : List Loc) : Prop := vR = none ∧ Fr n0 L ∧ Keep h0 h [va] ∧ (Arv Z h va kv .byte (16 : Int32) [(.int u0), (.int u1), (.int u2), (.int y0)] (.int (0 : Int32)))
theorem ef_gby3_1 (m : MethodId) (x0 : Addr) (x1 : Addr) (x2 : Int32) (x3 : Int32) : entryFrame m #[(.ref x0), (.ref x1), (.int x2), (.int x3)] 4 = mkF m 0 #[.val (.ref x0), .val (.ref x1), .val (.int x2), .val (.int x3)] [] := by first | (simp [entryFrame, mkF, argsToLocals, Value.category]; done) | rfl
set_option maxRecDepth 65536 in
set_option maxHeartbeats 40000000 in
theorem rm_gby3_1 (l : Launch) (Z : State) (a0 : Array Value) (hw : ∀ d ∈ tables_1, d.before a0 Z = true) (ws : List Jvm.Cond) (xs : Addr) (xt : Addr) (kx : ClassId) (y0 : Int32) (va : Addr) (kv : ClassId) (u0 : Int32) (u1 : Int32) (u2 : Int32) (u3 : Int32) (G1 : Int32) (h0 : Heap) (n0 : Nat) (Z0 : n0 ≤ h0.size) (H0 : Exa Z h0 xs "java/lang/String") (H1 : Fld Z h0 xs "java/lang/String" "value" "[B" (.ref xt)) (H2 : Fld Z h0 xs "java/lang/String" "coder" "B" (.int 0)) (H3 : Arv Z h0 xt kx .byte (1 : Int32) [(.int y0)] (.int (0 : Int32))) (H4 : Arv Z h0 va kv .byte (16 : Int32) [(.int u0), (.int u1), (.int u2), (.int u3)] (.int (0 : Int32))) (g_va : n0 ≤ va) (CS : Sta Z Z.heap "java/lang/String" "COMPACT_STRINGS" "Z" (.int G1)) (CSn : ¬ (G1 = (0 : Int32))) (O0 : Old Z n0 h0) :
    MetFree l (⟨"java/lang/String", "getBytes", "([BIB)V"⟩ : MethodName) (head1 (Jvm.Cond.code (⟨"java/lang/String", "getBytes", "([BIB)V"⟩ : MethodName) jdk_42_method_147_code 4 none :: ws) ({ frames := 1, cells := 0, slots := 0, locals := 18 } : Room)) (fun a U => a = #[(.ref xs), (.ref va), (.int 3), (.int 0)] ∧ Z.Warmed39 U.vm ∧ U.heap = h0) (fun _ _ _ _ _ => True) (fun _ U o U' => ∃ v L, o = .returned v ∧ Q_gby3_1 Z xs xt kx y0 va kv u0 u1 u2 u3 G1 h0 n0 v U'.heap L ∧ FrameEnd U o U' L ({ frames := 1, cells := 0, slots := 0, locals := 18 } : Room).cells ({ frames := 1, cells := 0, slots := 0, locals := 18 } : Room).slots) := by
  refine MetFree.of_bodySF (plainFor_of_name pn_java_lang_String) hisR ?_
  intro p e s m args below meth c s₁ Bd hml0 hP hK
  obtain ⟨rfl, hZ, hh⟩ := hP
  have hx := Bd.exec
  have hby := Bd.bytes
  have hml : c.maxLocals = 4 := hml0
  have hown : s.vm.findClass "java/lang/String" = some m.cls := findClass_of_methodNamed Bd.named
  have hnm := (name_of_methodNamed Bd.named Bd.method).1
  have X0 : Stand p l e ({ frames := 1, cells := 0, slots := 0, locals := 18 } : Room) s m #[(.ref xs), (.ref va), (.int 3), (.int 0)] below meth c s₁ [] 0 0 := Stand.of_body Bd
  have e0 : s₁.heap = h0 := by rw [← hh, Bd.state]; rfl
  have N0 := Fr.nil n0
  refine go_st (fun t k => castTop (ef_gby3_1 m xs va (3 : Int32) (0 : Int32)) k) ?_
  show Go _ _ _ _ (s₁.setTop (mkF m 0 #[rv xs, rv va, iv 3, iv 0] []))
  refine go_st (fun t k => XS.aloadN X0.here hx rfl (hb hby d22_0) rfl rfl k) ?_
  show Go _ _ _ _ (s₁.setTop (mkF m 1 #[rv xs, rv va, iv 3, iv 0] [(.ref xs)]))
  obtain ⟨cq1, kq1, q1a, q1b, q1c⟩ := isOf hZ e0 H0
  obtain ⟨_, _, ⟨T1, L1, kk1, nn1⟩, -, X1, ⟨Lc1, hQ1, lq1, yq1, zq1⟩, st1⟩ := X0.virtualBack hx (y := (⟨"java/lang/String", "coder", "()B"⟩ : MethodName)) (z := (⟨"java/lang/String", "coder", "()B"⟩ : MethodName)) hown (mvT hZ (w164 hw)) (mvT hZ (w165 hw)) (nf_same (y := (⟨"java/lang/String", "coder", "()B"⟩ : MethodName)) (y' := (⟨"java/lang/String", "equals", "(Ljava/lang/Object;)Z"⟩ : MethodName)) (a0 := #[]) rfl (mvT hZ (w75 hw)) (notFace_of_selects (args := #[]) (mvT hZ (w76 hw)))) (mvT hZ (w167 hw)) (mvT hZ (w166 hw)) (by decide) (backOf (W := 0) (rm_cod l Z a0 hw [] xs G1 h0 n0 (Nat.le_trans Z0 (Nat.le_refl _)) H2 CS CSn O0) hZ (w168 hw) (w11 hw) (by decide) (by decide)) q1a q1c (g := (mkF m 1 #[rv xs, rv va, iv 3, iv 0] [(.ref xs)])) rfl (by rw [hml]; rfl) (Steps.refl _) (argsL := []) (rest := []) (lenOf pd_4 rfl) rfl (by show 2 * 0 + _ ≤ _; exact Nat.le_of_eq rfl) (hb hby d22_1) (fun _ _ => ⟨rfl, e0, (by decide : 0 + 0 ≤ _), (by decide : 0 + 0 ≤ _)⟩)
  dsimp only [Pt.U, Pt.locs, Pt.cells, Pt.slots] at X1 lq1 yq1 zq1 st1 hQ1
  obtain rfl : kk1 = 0 := yq1
  obtain rfl : nn1 = 0 := zq1
  obtain ⟨h1, e1⟩ : ∃ z, T1.heap = z := ⟨_, rfl⟩
  rw [e1] at hQ1
  obtain ⟨rfl, N1q, he1⟩ := hQ1
  have N1 : Fr n0 L1 := by rw [lq1]; exact Fr.app N0 N1q
  rw [he1] at e1
  refine go_tr st1 ?_
  show Go _ _ _ _ (T1.setTop (mkF m 4 #[rv xs, rv va, iv 3, iv 0] [(.int 0)]))
  refine go_st (fun t k => XS.iloadN X1.here hx rfl (hb hby d22_4) rfl k) ?_
  show Go _ _ _ _ (T1.setTop (mkF m 5 #[rv xs, rv va, iv 3, iv 0] [(.int 0), (.int 0)]))
  refine go_st (fun t k => XS.icmpNo X1.here hx rfl (hb hby d22_5) rfl (teq ((by decide) : (0 : Int32) = (0 : Int32))).2 k) ?_
  show Go _ _ _ _ (T1.setTop (mkF m 8 #[rv xs, rv va, iv 3, iv 0] []))
  refine go_st (fun t k => XS.aloadN X1.here hx rfl (hb hby d22_8) rfl rfl k) ?_
  show Go _ _ _ _ (T1.setTop (mkF m 9 #[rv xs, rv va, iv 3, iv 0] [(.ref xs)]))
  obtain ⟨T2, X2, e2, st2⟩ := getF X1 hx hZ hown (host := "") (Or.inl (w36 hw)) Via.refl e1 H1 (g := (mkF m 9 #[rv xs, rv va, iv 3, iv 0] [(.ref xs)])) rfl rfl (hb hby d22_9)
  refine go_st (fun t k => st2 t k) ?_
  show Go _ _ _ _ (T2.setTop (mkF m 12 #[rv xs, rv va, iv 3, iv 0] [(.ref xt)]))
  refine go_st (fun t k => XS.iconst X2.here hx rfl (hb hby d22_12) k) ?_
  show Go _ _ _ _ (T2.setTop (mkF m 13 #[rv xs, rv va, iv 3, iv 0] [(.int 0), (.ref xt)]))
  refine go_st (fun t k => XS.aloadN X2.here hx rfl (hb hby d22_13) rfl rfl k) ?_
  show Go _ _ _ _ (T2.setTop (mkF m 14 #[rv xs, rv va, iv 3, iv 0] [(.ref va), (.int 0), (.ref xt)]))
  refine go_st (fun t k => XS.iloadN X2.here hx rfl (hb hby d22_14) rfl k) ?_
  show Go _ _ _ _ (T2.setTop (mkF m 15 #[rv xs, rv va, iv 3, iv 0] [(.int 3), (.ref va), (.int 0), (.ref xt)]))
  refine go_st (fun t k => XS.iloadN X2.here hx rfl (hb hby d22_15) rfl k) ?_
  show Go _ _ _ _ (T2.setTop (mkF m 16 #[rv xs, rv va, iv 3, iv 0] [(.int 0), (.int 3), (.ref va), (.int 0), (.ref xt)]))
  refine go_st (fun t k => XS.ishl X2.here hx rfl (hb hby d22_16) rfl k) ?_
  rw [show ((3 : Int32) <<< ((0 : Int32) &&& 31)) = (3 : Int32) from by decide]
  show Go _ _ _ _ (T2.setTop (mkF m 17 #[rv xs, rv va, iv 3, iv 0] [(.int 3), (.ref va), (.int 0), (.ref xt)]))
  refine go_st (fun t k => XS.aloadN X2.here hx rfl (hb hby d22_17) rfl rfl k) ?_
  show Go _ _ _ _ (T2.setTop (mkF m 18 #[rv xs, rv va, iv 3, iv 0] [(.ref xs), (.int 3), (.ref va), (.int 0), (.ref xt)]))
  obtain ⟨T3, X3, e3, st3⟩ := getF X2 hx hZ hown (host := "") (Or.inl (w36 hw)) Via.refl e2 H1 (g := (mkF m 18 #[rv xs, rv va, iv 3, iv 0] [(.ref xs), (.int 3), (.ref va), (.int 0), (.ref xt)])) rfl rfl (hb hby d22_18)
  refine go_st (fun t k => st3 t k) ?_
  show Go _ _ _ _ (T3.setTop (mkF m 21 #[rv xs, rv va, iv 3, iv 0] [(.ref xt), (.int 3), (.ref va), (.int 0), (.ref xt)]))
  obtain ⟨zc4, zA4, zq4, zS4, zN4, zH4, zG4⟩ := id H3
  refine go_st (fun t k => X3.arraylength hx (by rw [e3]; exact zA4.1) (State.isArrayOf_alike hZ.alike zA4.2.1) (g := (mkF m 21 #[rv xs, rv va, iv 3, iv 0] [(.ref xt), (.int 3), (.ref va), (.int 0), (.ref xt)])) rfl rfl (hb hby d22_21) t k) ?_
  rw [len_of zS4 zN4]
  show Go _ _ _ _ (T3.setTop (mkF m 22 #[rv xs, rv va, iv 3, iv 0] [(.int 1), (.int 3), (.ref va), (.int 0), (.ref xt)]))
  obtain ⟨T5, h5, L5, X5, e5, N5, K5, A5, st5⟩ := cpA X3 hx hZ hown (w192 hw) (w195 hw) (w193 hw) (w194 hw) e3 H3 H4 (Or.inl ⟨rfl, rfl⟩) (sp := (0 : Int32)) (dp := (3 : Int32)) (nn := (1 : Int32)) (us := [(.int y0)]) (by decide) (by decide) (by decide) (by decide) (by decide) rfl (Nat.le_of_ble_eq_true rfl) N1 g_va (g := (mkF m 22 #[rv xs, rv va, iv 3, iv 0] [(.int 1), (.int 3), (.ref va), (.int 0), (.ref xt)])) rfl (by rw [hml]; rfl) rfl (hb hby d22_22) (by decide) (W := 0) (by show 2 * 0 + _ ≤ _; exact Nat.le_of_eq rfl) (by decide)
  have f6 : Arv Z h5 va kv .byte (16 : Int32) [(.int u0), (.int u1), (.int u2), (.int y0)] (.int (0 : Int32)) := A5
  refine go_st (fun t k => st5 t k) ?_
  show Go _ _ _ _ (T5.setTop (mkF m 25 #[rv xs, rv va, iv 3, iv 0] []))
  refine go_st (fun t k => XS.goto X5.here hx rfl (pc0 := 25) (pc' := 43) rfl (hb hby d22_25) (by decide) (by decide) k) ?_
  show Go _ _ _ _ (T5.setTop (mkF m 43 #[rv xs, rv va, iv 3, iv 0] []))
  have ke7 : Keep h0 h5 [va] := (Keep.trans (Keep.refl h0 [va]) K5 (allS (Or.inl (List.mem_of_getElem? (i := 0) rfl)) all0))
  obtain ⟨fs, hr, hrun, hended, hW, hsame⟩ := X5.leave (v := none) (fun _ => rfl)
  refine ⟨_, _, ?_, hrun, hended, _, _, rfl, ?_, ⟨_, rfl⟩, hW, hsame.mono (by decide) (by decide)⟩
  · exact X5.returnOut hx Bd.returns (hb hby d22_43) hr
  · show Q_gby3_1 _ _ _ _ _ _ _ _ _ _ _ _ _ _ _ T5.heap _
    rw [e5]
    exact ⟨rfl, N5, ke7, f6⟩
def Q_psa3_1 (Z : State) (xs : Addr) (xt : Addr) (kx : ClassId) (y0 : Int32) (sb : Addr) (va : Addr) (kv : ClassId) (u0 : Int32) (u1 : Int32) (u2 : Int32) (u3 : Int32) (G1 : Int32) (h0 : Heap) (n0 : Nat) (vR : Option Value) (h : Heap) (L : List Loc) : Prop := vR = none ∧ Fr n0 L ∧ Keep h0 h [va] ∧ (Arv Z h va kv .byte (16 : Int32) [(.int u0), (.int u1), (.int u2), (.int y0)] (.int (0 : Int32)))
theorem ef_psa3_1 (m : MethodId) (x0 : Addr) (x1 : Int32) (x2 : Addr) : entryFrame m #[(.ref x0), (.int x1), (.ref x2)] 3 = mkF m 0 #[.val (.ref x0), .val (.int x1), .val (.ref x2)] [] := by first | (simp [entryFrame, mkF, argsToLocals, Value.category]; done) | rfl
set_option maxRecDepth 65536 in
set_option maxHeartbeats 40000000 in
theorem rm_psa3_1 (l : Launch) (Z : State) (a0 : Array Value) (hw : ∀ d ∈ tables_1, d.before a0 Z = true) (ws : List Jvm.Cond) (xs : Addr) (xt : Addr) (kx : ClassId) (y0 : Int32) (sb : Addr) (va : Addr) (kv : ClassId) (u0 : Int32) (u1 : Int32) (u2 : Int32) (u3 : Int32) (G1 : Int32) (h0 : Heap) (n0 : Nat) (Z0 : n0 ≤ h0.size) (H0 : Exa Z h0 xs "java/lang/String") (H1 : Fld Z h0 xs "java/lang/String" "value" "[B" (.ref xt)) (H2 : Fld Z h0 xs "java/lang/String" "coder" "B" (.int 0)) (H3 : Arv Z h0 xt kx .byte (1 : Int32) [(.int y0)] (.int (0 : Int32))) (H4 : Exa Z h0 sb "java/lang/StringBuilder") (H5 : Fld Z h0 sb "java/lang/AbstractStringBuilder" "value" "[B" (.ref va)) (H6 : Fld Z h0 sb "java/lang/AbstractStringBuilder" "coder" "B" (.int 0)) (H7 : Fld Z h0 sb "java/lang/AbstractStringBuilder" "count" "I" (.int 3)) (H8 : Arv Z h0 va kv .byte (16 : Int32) [(.int u0), (.int u1), (.int u2), (.int u3)] (.int (0 : Int32))) (g_sb : n0 ≤ sb) (g_va : n0 ≤ va) (CS : Sta Z Z.heap "java/lang/String" "COMPACT_STRINGS" "Z" (.int G1)) (CSn : ¬ (G1 = (0 : Int32))) (O0 : Old Z n0 h0) :
    MetFree l (⟨"java/lang/AbstractStringBuilder", "putStringAt", "(ILjava/lang/String;)V"⟩ : MethodName) (head1 (Jvm.Cond.code (⟨"java/lang/AbstractStringBuilder", "putStringAt", "(ILjava/lang/String;)V"⟩ : MethodName) jdk_68_method_73_code 3 none :: ws) ({ frames := 2, cells := 0, slots := 0, locals := 33 } : Room)) (fun a U => a = #[(.ref sb), (.int 3), (.ref xs)] ∧ Z.Warmed39 U.vm ∧ U.heap = h0) (fun _ _ _ _ _ => True) (fun _ U o U' => ∃ v L, o = .returned v ∧ Q_psa3_1 Z xs xt kx y0 sb va kv u0 u1 u2 u3 G1 h0 n0 v U'.heap L ∧ FrameEnd U o U' L ({ frames := 2, cells := 0, slots := 0, locals := 33 } : Room).cells ({ frames := 2, cells := 0, slots := 0, locals := 33 } : Room).slots) := by
  refine MetFree.of_bodySF (plainFor_of_name pn_java_lang_AbstractStringBuilder) hisR ?_
  intro p e s m args below meth c s₁ Bd hml0 hP hK
  obtain ⟨rfl, hZ, hh⟩ := hP
  have hx := Bd.exec
  have hby := Bd.bytes
  have hml : c.maxLocals = 3 := hml0
  have hown : s.vm.findClass "java/lang/AbstractStringBuilder" = some m.cls := findClass_of_methodNamed Bd.named
  have hnm := (name_of_methodNamed Bd.named Bd.method).1
  have X0 : Stand p l e ({ frames := 2, cells := 0, slots := 0, locals := 33 } : Room) s m #[(.ref sb), (.int 3), (.ref xs)] below meth c s₁ [] 0 0 := Stand.of_body Bd
  have e0 : s₁.heap = h0 := by rw [← hh, Bd.state]; rfl
  have N0 := Fr.nil n0
  refine go_st (fun t k => castTop (ef_psa3_1 m sb (3 : Int32) xs) k) ?_
  show Go _ _ _ _ (s₁.setTop (mkF m 0 #[rv sb, iv 3, rv xs] []))
  refine go_st (fun t k => XS.aloadN X0.here hx rfl (hb hby d20_0) rfl rfl k) ?_
  show Go _ _ _ _ (s₁.setTop (mkF m 1 #[rv sb, iv 3, rv xs] [(.ref sb)]))
  refine go_st (fun t k => XS.aloadN X0.here hx rfl (hb hby d20_1) rfl rfl k) ?_
  show Go _ _ _ _ (s₁.setTop (mkF m 2 #[rv sb, iv 3, rv xs] [(.ref xs), (.ref sb)]))
  obtain ⟨cq1, q1, q1'⟩ := H4.cell
  obtain ⟨_, _, ⟨T1, L1, kk1, nn1⟩, -, X1, ⟨Lc1, hQ1, lq1, yq1, zq1⟩, st1⟩ := X0.privateBack hx (y := (⟨"java/lang/AbstractStringBuilder", "inflateIfNeededFor", "(Ljava/lang/String;)V"⟩ : MethodName)) hown (mvT hZ (w181 hw)) (mvT hZ (w182 hw)) (mvT hZ (sel_priv (w183 hw) (w182 hw) (nf_same (y := (⟨"java/lang/AbstractStringBuilder", "inflateIfNeededFor", "(Ljava/lang/String;)V"⟩ : MethodName)) (y' := (⟨"java/lang/AbstractStringBuilder", "ensureCapacityInternal", "(I)V"⟩ : MethodName)) rfl (w172 hw) (notFace_of_selects (w174 hw))) (by decide))) (Cond.privateMethod_at (mvP hZ (w183 hw) (args := #[]))) (mvT hZ (w185 hw)) (by decide) (backOf (W := 0) (rm_inf l Z a0 hw [] sb xs G1 h0 n0 (Nat.le_trans Z0 (Nat.le_refl _)) H6 H0 H2 CS CSn O0) hZ (w185 hw) (w141 hw) (by decide) (by decide)) (g := (mkF m 2 #[rv sb, iv 3, rv xs] [(.ref xs), (.ref sb)])) rfl (by rw [hml]; rfl) (Steps.refl _) (a := sb) (by rw [e0]; exact q1) q1' (argsL := [(.ref xs)]) (rest := []) (lenOf pd_6 rfl) rfl (by show 2 * 0 + _ ≤ _; exact Nat.le_of_eq rfl) (hb hby d20_2) (fun _ _ => ⟨rfl, e0, (by decide : 0 + 0 ≤ _), (by decide : 0 + 0 ≤ _)⟩)
  dsimp only [Pt.U, Pt.locs, Pt.cells, Pt.slots] at X1 lq1 yq1 zq1 st1 hQ1
  obtain rfl : kk1 = 0 := yq1
  obtain rfl : nn1 = 0 := zq1
  obtain ⟨h1, e1⟩ : ∃ z, T1.heap = z := ⟨_, rfl⟩
  rw [e1] at hQ1
  obtain ⟨rfl, N1q, he1⟩ := hQ1
  have N1 : Fr n0 L1 := by rw [lq1]; exact Fr.app N0 N1q
  rw [he1] at e1
  refine go_tr st1 ?_
  show Go _ _ _ _ (T1.setTop (mkF m 5 #[rv sb, iv 3, rv xs] []))
  refine go_st (fun t k => XS.aloadN X1.here hx rfl (hb hby d20_5) rfl rfl k) ?_
  show Go _ _ _ _ (T1.setTop (mkF m 6 #[rv sb, iv 3, rv xs] [(.ref xs)]))
  refine go_st (fun t k => XS.aloadN X1.here hx rfl (hb hby d20_6) rfl rfl k) ?_
  show Go _ _ _ _ (T1.setTop (mkF m 7 #[rv sb, iv 3, rv xs] [(.ref sb), (.ref xs)]))
  obtain ⟨T2, X2, e2, st2⟩ := getF X1 hx hZ hown (host := "") (Or.inl (w145 hw)) Via.refl e1 H5 (g := (mkF m 7 #[rv sb, iv 3, rv xs] [(.ref sb), (.ref xs)])) rfl rfl (hb hby d20_7)
  refine go_st (fun t k => st2 t k) ?_
  show Go _ _ _ _ (T2.setTop (mkF m 10 #[rv sb, iv 3, rv xs] [(.ref va), (.ref xs)]))
  refine go_st (fun t k => XS.iloadN X2.here hx rfl (hb hby d20_10) rfl k) ?_
  show Go _ _ _ _ (T2.setTop (mkF m 11 #[rv sb, iv 3, rv xs] [(.int 3), (.ref va), (.ref xs)]))
  refine go_st (fun t k => XS.aloadN X2.here hx rfl (hb hby d20_11) rfl rfl k) ?_
  show Go _ _ _ _ (T2.setTop (mkF m 12 #[rv sb, iv 3, rv xs] [(.ref sb), (.int 3), (.ref va), (.ref xs)]))
  obtain ⟨T3, X3, e3, st3⟩ := getF X2 hx hZ hown (host := "") (Or.inl (w147 hw)) Via.refl e2 H6 (g := (mkF m 12 #[rv sb, iv 3, rv xs] [(.ref sb), (.int 3), (.ref va), (.ref xs)])) rfl rfl (hb hby d20_12)
  refine go_st (fun t k => st3 t k) ?_
  show Go _ _ _ _ (T3.setTop (mkF m 15 #[rv sb, iv 3, rv xs] [(.int 0), (.int 3), (.ref va), (.ref xs)]))
  obtain ⟨cq4, kq4, q4a, q4b, q4c⟩ := isOf hZ e3 H0
  obtain ⟨_, _, ⟨T4, L4, kk4, nn4⟩, -, X4, ⟨Lc4, hQ4, lq4, yq4, zq4⟩, st4⟩ := X3.virtualBack hx (y := (⟨"java/lang/String", "getBytes", "([BIB)V"⟩ : MethodName)) (z := (⟨"java/lang/String", "getBytes", "([BIB)V"⟩ : MethodName)) hown (mvT hZ (w187 hw)) (mvT hZ (w188 hw)) (nf_same (y := (⟨"java/lang/String", "getBytes", "([BIB)V"⟩ : MethodName)) (y' := (⟨"java/lang/String", "equals", "(Ljava/lang/Object;)Z"⟩ : MethodName)) (a0 := #[]) rfl (mvT hZ (w75 hw)) (notFace_of_selects (args := #[]) (mvT hZ (w76 hw)))) (mvT hZ (w190 hw)) (mvT hZ (w189 hw)) (by decide) (backOf (W := 0) (rm_gby3_1 l Z a0 hw [] xs xt kx y0 va kv u0 u1 u2 u3 G1 h0 n0 (Nat.le_trans Z0 (Nat.le_refl _)) H0 H1 H2 H3 H8 g_va CS CSn O0) hZ (w191 hw) (w11 hw) (by decide) (by decide)) q4a q4c (g := (mkF m 15 #[rv sb, iv 3, rv xs] [(.int 0), (.int 3), (.ref va), (.ref xs)])) rfl (by rw [hml]; rfl) (Steps.refl _) (argsL := [(.ref va), (.int 3), (.int 0)]) (rest := []) (lenOf pd_7 rfl) rfl (by show 2 * 0 + _ ≤ _; exact Nat.le_of_eq rfl) (hb hby d20_15) (fun _ _ => ⟨rfl, e3, (by decide : 0 + 0 ≤ _), (by decide : 0 + 0 ≤ _)⟩)
  dsimp only [Pt.U, Pt.locs, Pt.cells, Pt.slots] at X4 lq4 yq4 zq4 st4 hQ4
  obtain rfl : kk4 = 0 := yq4
  obtain rfl : nn4 = 0 := zq4
  obtain ⟨h4, e4⟩ : ∃ z, T4.heap = z := ⟨_, rfl⟩
  rw [e4] at hQ4
  obtain ⟨rfl, N4q, K4, p4_0⟩ := hQ4
  have N4 : Fr n0 L4 := by rw [lq4]; exact Fr.app N1 N4q
  refine go_tr st4 ?_
  show Go _ _ _ _ (T4.setTop (mkF m 18 #[rv sb, iv 3, rv xs] []))
  have ke5 : Keep h0 h4 [va] := (Keep.trans (Keep.refl h0 [va]) K4 (allS (Or.inl (List.mem_of_getElem? (i := 0) rfl)) all0))
  obtain ⟨fs, hr, hrun, hended, hW, hsame⟩ := X4.leave (v := none) (fun _ => rfl)
  refine ⟨_, _, ?_, hrun, hended, _, _, rfl, ?_, ⟨_, rfl⟩, hW, hsame.mono (by decide) (by decide)⟩
  · exact X4.returnOut hx Bd.returns (hb hby d20_18) hr
  · show Q_psa3_1 _ _ _ _ _ _ _ _ _ _ _ _ _ _ _ _ T4.heap _
    rw [e4]
    exact ⟨rfl, N4, ke5, p4_0⟩
def Q_asbaps3_1 (Z : State) (xs : Addr) (xt : Addr) (kx : ClassId) (y0 : Int32) (sb : Addr) (va : Addr) (kv : ClassId) (u0 : Int32) (u1 : Int32) (u2 : Int32) (u3 : Int32) (G1 : Int32) (h0 : Heap) (n0 : Nat) (vR : Option Value) (h : Heap) (L : List Loc) : Prop := vR = some (.ref sb) ∧ Fr n0 L ∧ Keep h0 h [sb, va] ∧ (Exa Z h sb "java/lang/StringBuilder") ∧ (Fld Z h sb "java/lang/AbstractStringBuilder" "value" "[B" (.ref va)) ∧ (Fld Z h sb "java/lang/AbstractStringBuilder" "coder" "B" (.int 0)) ∧ (Fld Z h sb "java/lang/AbstractStringBuilder" "count" "I" (.int 4)) ∧ (Arv Z h va kv .byte (16 : Int32) [(.int u0), (.int u1), (.int u2), (.int y0)] (.int (0 : Int32)))
theorem ef_asbaps3_1 (m : MethodId) (x0 : Addr) (x1 : Addr) : entryFrame m #[(.ref x0), (.ref x1)] 3 = mkF m 0 #[.val (.ref x0), .val (.ref x1), .unset] [] := by first | (simp [entryFrame, mkF, argsToLocals, Value.category]; done) | rfl
set_option maxRecDepth 65536 in
set_option maxHeartbeats 40000000 in
theorem rm_asbaps3_1 (l : Launch) (Z : State) (a0 : Array Value) (hw : ∀ d ∈ tables_1, d.before a0 Z = true) (ws : List Jvm.Cond) (xs : Addr) (xt : Addr) (kx : ClassId) (y0 : Int32) (sb : Addr) (va : Addr) (kv : ClassId) (u0 : Int32) (u1 : Int32) (u2 : Int32) (u3 : Int32) (G1 : Int32) (h0 : Heap) (n0 : Nat) (Z0 : n0 ≤ h0.size) (H0 : Exa Z h0 xs "java/lang/String") (H1 : Fld Z h0 xs "java/lang/String" "value" "[B" (.ref xt)) (H2 : Fld Z h0 xs "java/lang/String" "coder" "B" (.int 0)) (H3 : Arv Z h0 xt kx .byte (1 : Int32) [(.int y0)] (.int (0 : Int32))) (H4 : Exa Z h0 sb "java/lang/StringBuilder") (H5 : Fld Z h0 sb "java/lang/AbstractStringBuilder" "value" "[B" (.ref va)) (H6 : Fld Z h0 sb "java/lang/AbstractStringBuilder" "coder" "B" (.int 0)) (H7 : Fld Z h0 sb "java/lang/AbstractStringBuilder" "count" "I" (.int 3)) (H8 : Arv Z h0 va kv .byte (16 : Int32) [(.int u0), (.int u1), (.int u2), (.int u3)] (.int (0 : Int32))) (g_sb : n0 ≤ sb) (g_va : n0 ≤ va) (CS : Sta Z Z.heap "java/lang/String" "COMPACT_STRINGS" "Z" (.int G1)) (CSn : ¬ (G1 = (0 : Int32))) (O0 : Old Z n0 h0) :
    MetFree l (⟨"java/lang/AbstractStringBuilder", "append", "(Ljava/lang/String;)Ljava/lang/AbstractStringBuilder;"⟩ : MethodName) (head1 (Jvm.Cond.code (⟨"java/lang/AbstractStringBuilder", "append", "(Ljava/lang/String;)Ljava/lang/AbstractStringBuilder;"⟩ : MethodName) jdk_68_method_22_code 3 (some (.object "java/lang/AbstractStringBuilder")) :: ws) ({ frames := 3, cells := 0, slots := 0, locals := 47 } : Room)) (fun a U => a = #[(.ref sb), (.ref xs)] ∧ Z.Warmed39 U.vm ∧ U.heap = h0) (fun _ _ _ _ _ => True) (fun _ U o U' => ∃ v L, o = .returned v ∧ Q_asbaps3_1 Z xs xt kx y0 sb va kv u0 u1 u2 u3 G1 h0 n0 v U'.heap L ∧ FrameEnd U o U' L ({ frames := 3, cells := 0, slots := 0, locals := 47 } : Room).cells ({ frames := 3, cells := 0, slots := 0, locals := 47 } : Room).slots) := by
  refine MetFree.of_bodySF (plainFor_of_name pn_java_lang_AbstractStringBuilder) hisR ?_
  intro p e s m args below meth c s₁ Bd hml0 hP hK
  obtain ⟨rfl, hZ, hh⟩ := hP
  have hx := Bd.exec
  have hby := Bd.bytes
  have hml : c.maxLocals = 3 := hml0
  have hown : s.vm.findClass "java/lang/AbstractStringBuilder" = some m.cls := findClass_of_methodNamed Bd.named
  have hnm := (name_of_methodNamed Bd.named Bd.method).1
  have X0 : Stand p l e ({ frames := 3, cells := 0, slots := 0, locals := 47 } : Room) s m #[(.ref sb), (.ref xs)] below meth c s₁ [] 0 0 := Stand.of_body Bd
  have e0 : s₁.heap = h0 := by rw [← hh, Bd.state]; rfl
  have N0 := Fr.nil n0
  refine go_st (fun t k => castTop (ef_asbaps3_1 m sb xs) k) ?_
  show Go _ _ _ _ (s₁.setTop (mkF m 0 #[rv sb, rv xs, .unset] []))
  refine go_st (fun t k => XS.aloadN X0.here hx rfl (hb hby d16_0) rfl rfl k) ?_
  show Go _ _ _ _ (s₁.setTop (mkF m 1 #[rv sb, rv xs, .unset] [(.ref xs)]))
  refine go_st (fun t k => XS.ifnonnullYes X0.here hx rfl (pc0 := 1) (pc' := 9) rfl (hb hby d16_1) rfl (by decide) (by decide) k) ?_
  show Go _ _ _ _ (s₁.setTop (mkF m 9 #[rv sb, rv xs, .unset] []))
  refine go_st (fun t k => XS.aloadN X0.here hx rfl (hb hby d16_9) rfl rfl k) ?_
  show Go _ _ _ _ (s₁.setTop (mkF m 10 #[rv sb, rv xs, .unset] [(.ref xs)]))
  obtain ⟨cq1, kq1, q1a, q1b, q1c⟩ := isOf hZ e0 H0
  obtain ⟨_, _, ⟨T1, L1, kk1, nn1⟩, -, X1, ⟨Lc1, hQ1, lq1, yq1, zq1⟩, st1⟩ := X0.virtualBack hx (y := (⟨"java/lang/String", "length", "()I"⟩ : MethodName)) (z := (⟨"java/lang/String", "length", "()I"⟩ : MethodName)) hown (mvT hZ (w159 hw)) (mvT hZ (w160 hw)) (nf_same (y := (⟨"java/lang/String", "length", "()I"⟩ : MethodName)) (y' := (⟨"java/lang/String", "equals", "(Ljava/lang/Object;)Z"⟩ : MethodName)) (a0 := #[]) rfl (mvT hZ (w75 hw)) (notFace_of_selects (args := #[]) (mvT hZ (w76 hw)))) (mvT hZ (w162 hw)) (mvT hZ (w161 hw)) (by decide) (backOf (W := 0) (rm_slength1 l Z a0 hw [] xs xt kx y0 G1 h0 n0 (Nat.le_trans Z0 (Nat.le_refl _)) H0 H1 H2 H3 CS CSn O0) hZ (w163 hw) (w11 hw) (by decide) (by decide)) q1a q1c (g := (mkF m 10 #[rv sb, rv xs, .unset] [(.ref xs)])) rfl (by rw [hml]; rfl) (Steps.refl _) (argsL := []) (rest := []) (lenOf pd_5 rfl) rfl (by show 2 * 0 + _ ≤ _; exact Nat.le_of_eq rfl) (hb hby d16_10) (fun _ _ => ⟨rfl, e0, (by decide : 0 + 0 ≤ _), (by decide : 0 + 0 ≤ _)⟩)
  dsimp only [Pt.U, Pt.locs, Pt.cells, Pt.slots] at X1 lq1 yq1 zq1 st1 hQ1
  obtain rfl : kk1 = 0 := yq1
  obtain rfl : nn1 = 0 := zq1
  obtain ⟨h1, e1⟩ : ∃ z, T1.heap = z := ⟨_, rfl⟩
  rw [e1] at hQ1
  obtain ⟨rfl, N1q, he1⟩ := hQ1
  have N1 : Fr n0 L1 := by rw [lq1]; exact Fr.app N0 N1q
  rw [he1] at e1
  refine go_tr st1 ?_
  show Go _ _ _ _ (T1.setTop (mkF m 13 #[rv sb, rv xs, .unset] [(.int 1)]))
  refine go_st (fun t k => XS.istoreN X1.here hx rfl (hb hby d16_13) rfl (l' := #[rv sb, rv xs, iv 1]) rfl k) ?_
  show Go _ _ _ _ (T1.setTop (mkF m 14 #[rv sb, rv xs, iv 1] []))
  refine go_st (fun t k => XS.aloadN X1.here hx rfl (hb hby d16_14) rfl rfl k) ?_
  show Go _ _ _ _ (T1.setTop (mkF m 15 #[rv sb, rv xs, iv 1] [(.ref sb)]))
  refine go_st (fun t k => XS.aloadN X1.here hx rfl (hb hby d16_15) rfl rfl k) ?_
  show Go _ _ _ _ (T1.setTop (mkF m 16 #[rv sb, rv xs, iv 1] [(.ref sb), (.ref sb)]))
  obtain ⟨T2, X2, e2, st2⟩ := getF X1 hx hZ hown (host := "") (Or.inl (w169 hw)) Via.refl e1 H7 (g := (mkF m 16 #[rv sb, rv xs, iv 1] [(.ref sb), (.ref sb)])) rfl rfl (hb hby d16_16)
  refine go_st (fun t k => st2 t k) ?_
  show Go _ _ _ _ (T2.setTop (mkF m 19 #[rv sb, rv xs, iv 1] [(.int 3), (.ref sb)]))
  refine go_st (fun t k => XS.iloadN X2.here hx rfl (hb hby d16_19) rfl k) ?_
  show Go _ _ _ _ (T2.setTop (mkF m 20 #[rv sb, rv xs, iv 1] [(.int 1), (.int 3), (.ref sb)]))
  refine go_st (fun t k => XS.iadd X2.here hx rfl (hb hby d16_20) rfl k) ?_
  rw [show ((3 : Int32) + (1 : Int32)) = (4 : Int32) from by decide]
  show Go _ _ _ _ (T2.setTop (mkF m 21 #[rv sb, rv xs, iv 1] [(.int 4), (.ref sb)]))
  obtain ⟨cq3, q3, q3'⟩ := H4.cell
  obtain ⟨_, _, ⟨T3, L3, kk3, nn3⟩, -, X3, ⟨Lc3, hQ3, lq3, yq3, zq3⟩, st3⟩ := X2.privateBack hx (y := (⟨"java/lang/AbstractStringBuilder", "ensureCapacityInternal", "(I)V"⟩ : MethodName)) hown (mvT hZ (w171 hw)) (mvT hZ (w172 hw)) (mvT hZ (sel_priv (w173 hw) (w172 hw) (notFace_of_selects (w174 hw)) (by decide))) (Cond.privateMethod_at (mvP hZ (w173 hw) (args := #[]))) (mvT hZ (w175 hw)) (by decide) (backOf (W := 0) (rm_ens4 l Z a0 hw [] sb va kv u0 u1 u2 u3 h0 n0 (Nat.le_trans Z0 (Nat.le_refl _)) H5 H6 H8) hZ (w175 hw) (w141 hw) (by decide) (by decide)) (g := (mkF m 21 #[rv sb, rv xs, iv 1] [(.int 4), (.ref sb)])) rfl (by rw [hml]; rfl) (Steps.refl _) (a := sb) (by rw [e2]; exact q3) q3' (argsL := [(.int 4)]) (rest := []) (lenOf pd_3 rfl) rfl (by show 2 * 0 + _ ≤ _; exact Nat.le_of_eq rfl) (hb hby d16_21) (fun _ _ => ⟨rfl, e2, (by decide : 0 + 0 ≤ _), (by decide : 0 + 0 ≤ _)⟩)
  dsimp only [Pt.U, Pt.locs, Pt.cells, Pt.slots] at X3 lq3 yq3 zq3 st3 hQ3
  obtain rfl : kk3 = 0 := yq3
  obtain rfl : nn3 = 0 := zq3
  obtain ⟨h3, e3⟩ : ∃ z, T3.heap = z := ⟨_, rfl⟩
  rw [e3] at hQ3
  obtain ⟨rfl, N3q, he3⟩ := hQ3
  have N3 : Fr n0 L3 := by rw [lq3]; exact Fr.app N1 N3q
  rw [he3] at e3
  refine go_tr st3 ?_
  show Go _ _ _ _ (T3.setTop (mkF m 24 #[rv sb, rv xs, iv 1] []))
  refine go_st (fun t k => XS.aloadN X3.here hx rfl (hb hby d16_24) rfl rfl k) ?_
  show Go _ _ _ _ (T3.setTop (mkF m 25 #[rv sb, rv xs, iv 1] [(.ref sb)]))
  refine go_st (fun t k => XS.aloadN X3.here hx rfl (hb hby d16_25) rfl rfl k) ?_
  show Go _ _ _ _ (T3.setTop (mkF m 26 #[rv sb, rv xs, iv 1] [(.ref sb), (.ref sb)]))
  obtain ⟨T4, X4, e4, st4⟩ := getF X3 hx hZ hown (host := "") (Or.inl (w169 hw)) Via.refl e3 H7 (g := (mkF m 26 #[rv sb, rv xs, iv 1] [(.ref sb), (.ref sb)])) rfl rfl (hb hby d16_26)
  refine go_st (fun t k => st4 t k) ?_
  show Go _ _ _ _ (T4.setTop (mkF m 29 #[rv sb, rv xs, iv 1] [(.int 3), (.ref sb)]))
  refine go_st (fun t k => XS.aloadN X4.here hx rfl (hb hby d16_29) rfl rfl k) ?_
  show Go _ _ _ _ (T4.setTop (mkF m 30 #[rv sb, rv xs, iv 1] [(.ref xs), (.int 3), (.ref sb)]))
  obtain ⟨cq5, q5, q5'⟩ := H4.cell
  obtain ⟨_, _, ⟨T5, L5, kk5, nn5⟩, -, X5, ⟨Lc5, hQ5, lq5, yq5, zq5⟩, st5⟩ := X4.privateBack hx (y := (⟨"java/lang/AbstractStringBuilder", "putStringAt", "(ILjava/lang/String;)V"⟩ : MethodName)) hown (mvT hZ (w176 hw)) (mvT hZ (w177 hw)) (mvT hZ (sel_priv (w178 hw) (w177 hw) (nf_same (y := (⟨"java/lang/AbstractStringBuilder", "putStringAt", "(ILjava/lang/String;)V"⟩ : MethodName)) (y' := (⟨"java/lang/AbstractStringBuilder", "ensureCapacityInternal", "(I)V"⟩ : MethodName)) rfl (w172 hw) (notFace_of_selects (w174 hw))) (by decide))) (Cond.privateMethod_at (mvP hZ (w178 hw) (args := #[]))) (mvT hZ (w180 hw)) (by decide) (backOf (W := 0) (rm_psa3_1 l Z a0 hw [] xs xt kx y0 sb va kv u0 u1 u2 u3 G1 h0 n0 (Nat.le_trans Z0 (Nat.le_refl _)) H0 H1 H2 H3 H4 H5 H6 H7 H8 g_sb g_va CS CSn O0) hZ (w180 hw) (w141 hw) (by decide) (by decide)) (g := (mkF m 30 #[rv sb, rv xs, iv 1] [(.ref xs), (.int 3), (.ref sb)])) rfl (by rw [hml]; rfl) (Steps.refl _) (a := sb) (by rw [e4]; exact q5) q5' (argsL := [(.int 3), (.ref xs)]) (rest := []) (lenOf pd_8 rfl) rfl (by show 2 * 0 + _ ≤ _; exact Nat.le_of_eq rfl) (hb hby d16_30) (fun _ _ => ⟨rfl, e4, (by decide : 0 + 0 ≤ _), (by decide : 0 + 0 ≤ _)⟩)
  dsimp only [Pt.U, Pt.locs, Pt.cells, Pt.slots] at X5 lq5 yq5 zq5 st5 hQ5
  obtain rfl : kk5 = 0 := yq5
  obtain rfl : nn5 = 0 := zq5
  obtain ⟨h5, e5⟩ : ∃ z, T5.heap = z := ⟨_, rfl⟩
  rw [e5] at hQ5
  obtain ⟨rfl, N5q, K5, p5_0⟩ := hQ5
  have N5 : Fr n0 L5 := by rw [lq5]; exact Fr.app N3 N5q
  refine go_tr st5 ?_
  show Go _ _ _ _ (T5.setTop (mkF m 33 #[rv sb, rv xs, iv 1] []))
  refine go_st (fun t k => XS.aloadN X5.here hx rfl (hb hby d16_33) rfl rfl k) ?_
  show Go _ _ _ _ (T5.setTop (mkF m 34 #[rv sb, rv xs, iv 1] [(.ref sb)]))
  refine go_st (fun t k => XS.dup X5.here hx rfl (hb hby d16_34) rfl rfl k) ?_
  show Go _ _ _ _ (T5.setTop (mkF m 35 #[rv sb, rv xs, iv 1] [(.ref sb), (.ref sb)]))
  have nq6 : sb ≠ va := Exa.neArv H4 H8 (w132 hw)
  have f7 : Fld Z h5 sb "java/lang/AbstractStringBuilder" "count" "I" (.int 3) := (H7.keep K5 (ninS nq6 nin0))
  obtain ⟨T8, X8, e8, st8⟩ := getF X5 hx hZ hown (host := "") (Or.inl (w169 hw)) Via.refl e5 f7 (g := (mkF m 35 #[rv sb, rv xs, iv 1] [(.ref sb), (.ref sb)])) rfl rfl (hb hby d16_35)
  refine go_st (fun t k => st8 t k) ?_
  show Go _ _ _ _ (T8.setTop (mkF m 38 #[rv sb, rv xs, iv 1] [(.int 3), (.ref sb)]))
  refine go_st (fun t k => XS.iloadN X8.here hx rfl (hb hby d16_38) rfl k) ?_
  show Go _ _ _ _ (T8.setTop (mkF m 39 #[rv sb, rv xs, iv 1] [(.int 1), (.int 3), (.ref sb)]))
  refine go_st (fun t k => XS.iadd X8.here hx rfl (hb hby d16_39) rfl k) ?_
  rw [show ((3 : Int32) + (1 : Int32)) = (4 : Int32) from by decide]
  show Go _ _ _ _ (T8.setTop (mkF m 40 #[rv sb, rv xs, iv 1] [(.int 4), (.ref sb)]))
  have f9 : Exa Z h5 sb "java/lang/StringBuilder" := (H4.keep K5)
  obtain ⟨T10, h10, X10, e10, W10, st10⟩ := putF X8 hx hZ hown (host := "") (Or.inl (w169 hw)) Via.refl e8 f7 f9 (Or.inl (w170 hw)) (w132 hw) (ty := .int) (by decide) rfl rfl (g := (mkF m 40 #[rv sb, rv xs, iv 1] [(.int 4), (.ref sb)])) rfl rfl (hb hby d16_40)
  have N10 := Fr.snoc X10 N5 g_sb
  have f11 : Fld Z h10 sb "java/lang/AbstractStringBuilder" "count" "I" (.int 4) := f7.same W10
  refine go_st (fun t k => st10 t k) ?_
  show Go _ _ _ _ (T10.setTop (mkF m 43 #[rv sb, rv xs, iv 1] []))
  refine go_st (fun t k => XS.aloadN X10.here hx rfl (hb hby d16_43) rfl rfl k) ?_
  show Go _ _ _ _ (T10.setTop (mkF m 44 #[rv sb, rv xs, iv 1] [(.ref sb)]))
  have f12 : Exa Z h10 sb "java/lang/StringBuilder" := (f9.wr W10)
  have f13 : Fld Z h10 sb "java/lang/AbstractStringBuilder" "value" "[B" (.ref va) := ((H5.keep K5 (ninS nq6 nin0)).other W10 (Or.inr (slot_ne (Or.inl (w146 hw)) (Or.inl (w170 hw)) (by decide) (t := (.array .byte)) (t' := .int) (by decide) (by decide))))
  have f14 : Fld Z h10 sb "java/lang/AbstractStringBuilder" "coder" "B" (.int 0) := ((H6.keep K5 (ninS nq6 nin0)).other W10 (Or.inr (slot_ne (Or.inl (w148 hw)) (Or.inl (w170 hw)) (by decide) (t := .byte) (t' := .int) (by decide) (by decide))))
  have f15 : Arv Z h10 va kv .byte (16 : Int32) [(.int u0), (.int u1), (.int u2), (.int y0)] (.int (0 : Int32)) := (p5_0.other W10 (Ne.symm nq6))
  have ke16 : Keep h0 h5 [sb, va] := (Keep.trans (Keep.refl h0 [sb, va]) K5 (allS (Or.inl (List.mem_of_getElem? (i := 1) rfl)) all0))
  have ke17 : Keep h0 h10 [sb, va] := (Keep.wr ke16 W10 (Or.inl (List.mem_of_getElem? (i := 0) rfl)))
  obtain ⟨fs, hr, hrun, hended, hW, hsame⟩ := X10.leave (v := some (.ref sb)) (fun h => by rw [Bd.returns] at h; cases h)
  refine ⟨_, _, ?_, hrun, hended, _, _, rfl, ?_, ⟨_, rfl⟩, hW, hsame.mono (by decide) (by decide)⟩
  · exact retOut X10 hx Bd.returns rfl (Or.inr (Or.inr (Or.inr (Or.inr ⟨rfl, rfl, rfl⟩)))) (hb hby d16_44) hr
  · show Q_asbaps3_1 _ _ _ _ _ _ _ _ _ _ _ _ _ _ _ _ T10.heap _
    rw [e10]
    exact ⟨rfl, N10, ke17, f12, f13, f14, f11, f15⟩
def Q_sbaps3_1 (Z : State) (xs : Addr) (xt : Addr) (kx : ClassId) (y0 : Int32) (sb : Addr) (va : Addr) (kv : ClassId) (u0 : Int32) (u1 : Int32) (u2 : Int32) (u3 : Int32) (G1 : Int32) (h0 : Heap) (n0 : Nat) (vR : Option Value) (h : Heap) (L : List Loc) : Prop := vR = some (.ref sb) ∧ Fr n0 L ∧ Keep h0 h [sb, va] ∧ (Exa Z h sb "java/lang/StringBuilder") ∧ (Fld Z h sb "java/lang/AbstractStringBuilder" "value" "[B" (.ref va)) ∧ (Fld Z h sb "java/lang/AbstractStringBuilder" "coder" "B" (.int 0)) ∧ (Fld Z h sb "java/lang/AbstractStringBuilder" "count" "I" (.int 4)) ∧ (Arv Z h va kv .byte (16 : Int32) [(.int u0), (.int u1), (.int u2), (.int y0)] (.int (0 : Int32)))
theorem ef_sbaps3_1 (m : MethodId) (x0 : Addr) (x1 : Addr) : entryFrame m #[(.ref x0), (.ref x1)] 2 = mkF m 0 #[.val (.ref x0), .val (.ref x1)] [] := by first | (simp [entryFrame, mkF, argsToLocals, Value.category]; done) | rfl
set_option maxRecDepth 65536 in
set_option maxHeartbeats 40000000 in
theorem rm_sbaps3_1 (l : Launch) (Z : State) (a0 : Array Value) (hw : ∀ d ∈ tables_1, d.before a0 Z = true) (ws : List Jvm.Cond) (xs : Addr) (xt : Addr) (kx : ClassId) (y0 : Int32) (sb : Addr) (va : Addr) (kv : ClassId) (u0 : Int32) (u1 : Int32) (u2 : Int32) (u3 : Int32) (G1 : Int32) (h0 : Heap) (n0 : Nat) (Z0 : n0 ≤ h0.size) (H0 : Exa Z h0 xs "java/lang/String") (H1 : Fld Z h0 xs "java/lang/String" "value" "[B" (.ref xt)) (H2 : Fld Z h0 xs "java/lang/String" "coder" "B" (.int 0)) (H3 : Arv Z h0 xt kx .byte (1 : Int32) [(.int y0)] (.int (0 : Int32))) (H4 : Exa Z h0 sb "java/lang/StringBuilder") (H5 : Fld Z h0 sb "java/lang/AbstractStringBuilder" "value" "[B" (.ref va)) (H6 : Fld Z h0 sb "java/lang/AbstractStringBuilder" "coder" "B" (.int 0)) (H7 : Fld Z h0 sb "java/lang/AbstractStringBuilder" "count" "I" (.int 3)) (H8 : Arv Z h0 va kv .byte (16 : Int32) [(.int u0), (.int u1), (.int u2), (.int u3)] (.int (0 : Int32))) (g_sb : n0 ≤ sb) (g_va : n0 ≤ va) (CS : Sta Z Z.heap "java/lang/String" "COMPACT_STRINGS" "Z" (.int G1)) (CSn : ¬ (G1 = (0 : Int32))) (O0 : Old Z n0 h0) :
    MetFree l (⟨"java/lang/StringBuilder", "append", "(Ljava/lang/String;)Ljava/lang/StringBuilder;"⟩ : MethodName) (head1 (Jvm.Cond.code (⟨"java/lang/StringBuilder", "append", "(Ljava/lang/String;)Ljava/lang/StringBuilder;"⟩ : MethodName) jdk_67_method_7_code 2 (some (.object "java/lang/StringBuilder")) :: ws) ({ frames := 4, cells := 0, slots := 0, locals := 61 } : Room)) (fun a U => a = #[(.ref sb), (.ref xs)] ∧ Z.Warmed39 U.vm ∧ U.heap = h0) (fun _ _ _ _ _ => True) (fun _ U o U' => ∃ v L, o = .returned v ∧ Q_sbaps3_1 Z xs xt kx y0 sb va kv u0 u1 u2 u3 G1 h0 n0 v U'.heap L ∧ FrameEnd U o U' L ({ frames := 4, cells := 0, slots := 0, locals := 61 } : Room).cells ({ frames := 4, cells := 0, slots := 0, locals := 61 } : Room).slots) := by
  refine MetFree.of_bodySF (plainFor_of_name pn_java_lang_StringBuilder) hisR ?_
  intro p e s m args below meth c s₁ Bd hml0 hP hK
  obtain ⟨rfl, hZ, hh⟩ := hP
  have hx := Bd.exec
  have hby := Bd.bytes
  have hml : c.maxLocals = 2 := hml0
  have hown : s.vm.findClass "java/lang/StringBuilder" = some m.cls := findClass_of_methodNamed Bd.named
  have hnm := (name_of_methodNamed Bd.named Bd.method).1
  have X0 : Stand p l e ({ frames := 4, cells := 0, slots := 0, locals := 61 } : Room) s m #[(.ref sb), (.ref xs)] below meth c s₁ [] 0 0 := Stand.of_body Bd
  have e0 : s₁.heap = h0 := by rw [← hh, Bd.state]; rfl
  have N0 := Fr.nil n0
  refine go_st (fun t k => castTop (ef_sbaps3_1 m sb xs) k) ?_
  show Go _ _ _ _ (s₁.setTop (mkF m 0 #[rv sb, rv xs] []))
  refine go_st (fun t k => XS.aloadN X0.here hx rfl (hb hby d15_0) rfl rfl k) ?_
  show Go _ _ _ _ (s₁.setTop (mkF m 1 #[rv sb, rv xs] [(.ref sb)]))
  refine go_st (fun t k => XS.aloadN X0.here hx rfl (hb hby d15_1) rfl rfl k) ?_
  show Go _ _ _ _ (s₁.setTop (mkF m 2 #[rv sb, rv xs] [(.ref xs), (.ref sb)]))
  obtain ⟨_, _, ⟨T1, L1, kk1, nn1⟩, -, X1, ⟨Lc1, hQ1, lq1, yq1, zq1⟩, st1⟩ := superBack X0 hx hZ (y := (⟨"java/lang/AbstractStringBuilder", "append", "(Ljava/lang/String;)Ljava/lang/AbstractStringBuilder;"⟩ : MethodName)) hown (w154 hw) (same_self (w155 hw) (nf_same (y := (⟨"java/lang/AbstractStringBuilder", "append", "(Ljava/lang/String;)Ljava/lang/AbstractStringBuilder;"⟩ : MethodName)) (y' := (⟨"java/lang/AbstractStringBuilder", "ensureCapacityInternal", "(I)V"⟩ : MethodName)) rfl (w172 hw) (notFace_of_selects (w174 hw))) (by decide)) (w155 hw) (w156 hw) (by decide) (backOf (W := 0) (rm_asbaps3_1 l Z a0 hw [] xs xt kx y0 sb va kv u0 u1 u2 u3 G1 h0 n0 (Nat.le_trans Z0 (Nat.le_refl _)) H0 H1 H2 H3 H4 H5 H6 H7 H8 g_sb g_va CS CSn O0) hZ (w158 hw) (w141 hw) (by decide) (by decide)) e0 (a := sb) (Ins.self H4) (g := (mkF m 2 #[rv sb, rv xs] [(.ref xs), (.ref sb)])) rfl (by rw [hml]; rfl) (w158 hw) (argsL := [(.ref xs)]) (rest := []) (lenOf pd_9 rfl) rfl (by show 2 * 0 + _ ≤ _; exact Nat.le_of_eq rfl) (hb hby d15_2) (fun _ _ => ⟨rfl, e0, (by decide : 0 + 0 ≤ _), (by decide : 0 + 0 ≤ _)⟩)
  dsimp only [Pt.U, Pt.locs, Pt.cells, Pt.slots] at X1 lq1 yq1 zq1 st1 hQ1
  obtain rfl : kk1 = 0 := yq1
  obtain rfl : nn1 = 0 := zq1
  obtain ⟨h1, e1⟩ : ∃ z, T1.heap = z := ⟨_, rfl⟩
  rw [e1] at hQ1
  obtain ⟨rfl, N1q, K1, p1_0, p1_1, p1_2, p1_3, p1_4⟩ := hQ1
  have N1 : Fr n0 L1 := by rw [lq1]; exact Fr.app N0 N1q
  refine go_tr st1 ?_
  show Go _ _ _ _ (T1.setTop (mkF m 5 #[rv sb, rv xs] [(.ref sb)]))
  refine go_st (fun t k => XS.pop X1.here hx rfl (hb hby d15_5) rfl rfl k) ?_
  show Go _ _ _ _ (T1.setTop (mkF m 6 #[rv sb, rv xs] []))
  refine go_st (fun t k => XS.aloadN X1.here hx rfl (hb hby d15_6) rfl rfl k) ?_
  show Go _ _ _ _ (T1.setTop (mkF m 7 #[rv sb, rv xs] [(.ref sb)]))
  have ke2 : Keep h0 h1 [sb, va] := (Keep.trans (Keep.refl h0 [sb, va]) K1 (allS (Or.inl (List.mem_of_getElem? (i := 0) rfl)) (allS (Or.inl (List.mem_of_getElem? (i := 1) rfl)) all0)))
  obtain ⟨fs, hr, hrun, hended, hW, hsame⟩ := X1.leave (v := some (.ref sb)) (fun h => by rw [Bd.returns] at h; cases h)
  refine ⟨_, _, ?_, hrun, hended, _, _, rfl, ?_, ⟨_, rfl⟩, hW, hsame.mono (by decide) (by decide)⟩
  · exact retOut X1 hx Bd.returns rfl (Or.inr (Or.inr (Or.inr (Or.inr ⟨rfl, rfl, rfl⟩)))) (hb hby d15_7) hr
  · show Q_sbaps3_1 _ _ _ _ _ _ _ _ _ _ _ _ _ _ _ _ T1.heap _
    rw [e1]
    exact ⟨rfl, N1, ke2, p1_0, p1_1, p1_2, p1_3, p1_4⟩
def Q_getv (Z : State) (sb : Addr) (va : Addr) (h0 : Heap) (n0 : Nat) (vR : Option Value) (h : Heap) (L : List Loc) : Prop := vR = some (.ref va) ∧ Fr n0 L ∧ h = h0
theorem ef_getv (m : MethodId) (x0 : Addr) : entryFrame m #[(.ref x0)] 1 = mkF m 0 #[.val (.ref x0)] [] := by first | (simp [entryFrame, mkF, argsToLocals, Value.category]; done) | rfl
set_option maxRecDepth 65536 in
set_option maxHeartbeats 40000000 in
theorem rm_getv (l : Launch) (Z : State) (a0 : Array Value) (hw : ∀ d ∈ tables_1, d.before a0 Z = true) (ws : List Jvm.Cond) (sb : Addr) (va : Addr) (h0 : Heap) (n0 : Nat) (Z0 : n0 ≤ h0.size) (H0 : Fld Z h0 sb "java/lang/AbstractStringBuilder" "value" "[B" (.ref va)) :
    MetFree l (⟨"java/lang/AbstractStringBuilder", "getValue", "()[B"⟩ : MethodName) (head1 (Jvm.Cond.code (⟨"java/lang/AbstractStringBuilder", "getValue", "()[B"⟩ : MethodName) jdk_68_method_64_code 1 (some (.array .byte)) :: ws) ({ frames := 0, cells := 0, slots := 0, locals := 0 } : Room)) (fun a U => a = #[(.ref sb)] ∧ Z.Warmed39 U.vm ∧ U.heap = h0) (fun _ _ _ _ _ => True) (fun _ U o U' => ∃ v L, o = .returned v ∧ Q_getv Z sb va h0 n0 v U'.heap L ∧ FrameEnd U o U' L ({ frames := 0, cells := 0, slots := 0, locals := 0 } : Room).cells ({ frames := 0, cells := 0, slots := 0, locals := 0 } : Room).slots) := by
  refine MetFree.of_bodySF (plainFor_of_name pn_java_lang_AbstractStringBuilder) hisR ?_
  intro p e s m args below meth c s₁ Bd hml0 hP hK
  obtain ⟨rfl, hZ, hh⟩ := hP
  have hx := Bd.exec
  have hby := Bd.bytes
  have hml : c.maxLocals = 1 := hml0
  have hown : s.vm.findClass "java/lang/AbstractStringBuilder" = some m.cls := findClass_of_methodNamed Bd.named
  have hnm := (name_of_methodNamed Bd.named Bd.method).1
  have X0 : Stand p l e ({ frames := 0, cells := 0, slots := 0, locals := 0 } : Room) s m #[(.ref sb)] below meth c s₁ [] 0 0 := Stand.of_body Bd
  have e0 : s₁.heap = h0 := by rw [← hh, Bd.state]; rfl
  have N0 := Fr.nil n0
  refine go_st (fun t k => castTop (ef_getv m sb) k) ?_
  show Go _ _ _ _ (s₁.setTop (mkF m 0 #[rv sb] []))
  refine go_st (fun t k => XS.aloadN X0.here hx rfl (hb hby d26_0) rfl rfl k) ?_
  show Go _ _ _ _ (s₁.setTop (mkF m 1 #[rv sb] [(.ref sb)]))
  obtain ⟨T1, X1, e1, st1⟩ := getF X0 hx hZ hown (host := "") (Or.inl (w145 hw)) Via.refl e0 H0 (g := (mkF m 1 #[rv sb] [(.ref sb)])) rfl rfl (hb hby d26_1)
  refine go_st (fun t k => st1 t k) ?_
  show Go _ _ _ _ (T1.setTop (mkF m 4 #[rv sb] [(.ref va)]))
  obtain ⟨fs, hr, hrun, hended, hW, hsame⟩ := X1.leave (v := some (.ref va)) (fun h => by rw [Bd.returns] at h; cases h)
  refine ⟨_, _, ?_, hrun, hended, _, _, rfl, ?_, ⟨_, rfl⟩, hW, hsame.mono (by decide) (by decide)⟩
  · exact retOut X1 hx Bd.returns rfl (Or.inr (Or.inr (Or.inr (Or.inr ⟨rfl, rfl, rfl⟩)))) (hb hby d26_4) hr
  · show Q_getv _ _ _ _ _ _ T1.heap _
    rw [e1]
    exact ⟨rfl, N0, rfl⟩
def Q_asb_len4 (Z : State) (sb : Addr) (h0 : Heap) (n0 : Nat) (vR : Option Value) (h : Heap) (L : List Loc) : Prop := vR = some (.int 4) ∧ Fr n0 L ∧ h = h0
theorem ef_asb_len4 (m : MethodId) (x0 : Addr) : entryFrame m #[(.ref x0)] 1 = mkF m 0 #[.val (.ref x0)] [] := by first | (simp [entryFrame, mkF, argsToLocals, Value.category]; done) | rfl
set_option maxRecDepth 65536 in
set_option maxHeartbeats 40000000 in
theorem rm_asb_len4 (l : Launch) (Z : State) (a0 : Array Value) (hw : ∀ d ∈ tables_1, d.before a0 Z = true) (ws : List Jvm.Cond) (sb : Addr) (h0 : Heap) (n0 : Nat) (Z0 : n0 ≤ h0.size) (H0 : Exa Z h0 sb "java/lang/StringBuilder") (H1 : Fld Z h0 sb "java/lang/AbstractStringBuilder" "count" "I" (.int 4)) :
    MetFree l (⟨"java/lang/AbstractStringBuilder", "length", "()I"⟩ : MethodName) (head1 (Jvm.Cond.code (⟨"java/lang/AbstractStringBuilder", "length", "()I"⟩ : MethodName) jdk_68_method_6_code 1 (some .int) :: ws) ({ frames := 0, cells := 0, slots := 0, locals := 0 } : Room)) (fun a U => a = #[(.ref sb)] ∧ Z.Warmed39 U.vm ∧ U.heap = h0) (fun _ _ _ _ _ => True) (fun _ U o U' => ∃ v L, o = .returned v ∧ Q_asb_len4 Z sb h0 n0 v U'.heap L ∧ FrameEnd U o U' L ({ frames := 0, cells := 0, slots := 0, locals := 0 } : Room).cells ({ frames := 0, cells := 0, slots := 0, locals := 0 } : Room).slots) := by
  refine MetFree.of_bodySF (plainFor_of_name pn_java_lang_AbstractStringBuilder) hisR ?_
  intro p e s m args below meth c s₁ Bd hml0 hP hK
  obtain ⟨rfl, hZ, hh⟩ := hP
  have hx := Bd.exec
  have hby := Bd.bytes
  have hml : c.maxLocals = 1 := hml0
  have hown : s.vm.findClass "java/lang/AbstractStringBuilder" = some m.cls := findClass_of_methodNamed Bd.named
  have hnm := (name_of_methodNamed Bd.named Bd.method).1
  have X0 : Stand p l e ({ frames := 0, cells := 0, slots := 0, locals := 0 } : Room) s m #[(.ref sb)] below meth c s₁ [] 0 0 := Stand.of_body Bd
  have e0 : s₁.heap = h0 := by rw [← hh, Bd.state]; rfl
  have N0 := Fr.nil n0
  refine go_st (fun t k => castTop (ef_asb_len4 m sb) k) ?_
  show Go _ _ _ _ (s₁.setTop (mkF m 0 #[rv sb] []))
  refine go_st (fun t k => XS.aloadN X0.here hx rfl (hb hby d28_0) rfl rfl k) ?_
  show Go _ _ _ _ (s₁.setTop (mkF m 1 #[rv sb] [(.ref sb)]))
  obtain ⟨T1, X1, e1, st1⟩ := getF X0 hx hZ hown (host := "") (Or.inl (w169 hw)) Via.refl e0 H1 (g := (mkF m 1 #[rv sb] [(.ref sb)])) rfl rfl (hb hby d28_1)
  refine go_st (fun t k => st1 t k) ?_
  show Go _ _ _ _ (T1.setTop (mkF m 4 #[rv sb] [(.int 4)]))
  obtain ⟨fs, hr, hrun, hended, hW, hsame⟩ := X1.leave (v := some (.int 4)) (fun h => by rw [Bd.returns] at h; cases h)
  refine ⟨_, _, ?_, hrun, hended, _, _, rfl, ?_, ⟨_, rfl⟩, hW, hsame.mono (by decide) (by decide)⟩
  · exact retI X1 hx Bd.returns (hb hby d28_4) hr
  · show Q_asb_len4 _ _ _ _ _ T1.heap _
    rw [e1]
    exact ⟨rfl, N0, rfl⟩
def Q_sb_len4 (Z : State) (sb : Addr) (h0 : Heap) (n0 : Nat) (vR : Option Value) (h : Heap) (L : List Loc) : Prop := vR = some (.int 4) ∧ Fr n0 L ∧ h = h0
theorem ef_sb_len4 (m : MethodId) (x0 : Addr) : entryFrame m #[(.ref x0)] 1 = mkF m 0 #[.val (.ref x0)] [] := by first | (simp [entryFrame, mkF, argsToLocals, Value.category]; done) | rfl
set_option maxRecDepth 65536 in
set_option maxHeartbeats 40000000 in
theorem rm_sb_len4 (l : Launch) (Z : State) (a0 : Array Value) (hw : ∀ d ∈ tables_1, d.before a0 Z = true) (ws : List Jvm.Cond) (sb : Addr) (h0 : Heap) (n0 : Nat) (Z0 : n0 ≤ h0.size) (H0 : Exa Z h0 sb "java/lang/StringBuilder") (H1 : Fld Z h0 sb "java/lang/AbstractStringBuilder" "count" "I" (.int 4)) :
    MetFree l (⟨"java/lang/StringBuilder", "length", "()I"⟩ : MethodName) (head1 (Jvm.Cond.code (⟨"java/lang/StringBuilder", "length", "()I"⟩ : MethodName) jdk_67_method_93_code 1 (some .int) :: ws) ({ frames := 1, cells := 0, slots := 0, locals := 12 } : Room)) (fun a U => a = #[(.ref sb)] ∧ Z.Warmed39 U.vm ∧ U.heap = h0) (fun _ _ _ _ _ => True) (fun _ U o U' => ∃ v L, o = .returned v ∧ Q_sb_len4 Z sb h0 n0 v U'.heap L ∧ FrameEnd U o U' L ({ frames := 1, cells := 0, slots := 0, locals := 12 } : Room).cells ({ frames := 1, cells := 0, slots := 0, locals := 12 } : Room).slots) := by
  refine MetFree.of_bodySF (plainFor_of_name pn_java_lang_StringBuilder) hisR ?_
  intro p e s m args below meth c s₁ Bd hml0 hP hK
  obtain ⟨rfl, hZ, hh⟩ := hP
  have hx := Bd.exec
  have hby := Bd.bytes
  have hml : c.maxLocals = 1 := hml0
  have hown : s.vm.findClass "java/lang/StringBuilder" = some m.cls := findClass_of_methodNamed Bd.named
  have hnm := (name_of_methodNamed Bd.named Bd.method).1
  have X0 : Stand p l e ({ frames := 1, cells := 0, slots := 0, locals := 12 } : Room) s m #[(.ref sb)] below meth c s₁ [] 0 0 := Stand.of_body Bd
  have e0 : s₁.heap = h0 := by rw [← hh, Bd.state]; rfl
  have N0 := Fr.nil n0
  refine go_st (fun t k => castTop (ef_sb_len4 m sb) k) ?_
  show Go _ _ _ _ (s₁.setTop (mkF m 0 #[rv sb] []))
  refine go_st (fun t k => XS.aloadN X0.here hx rfl (hb hby d27_0) rfl rfl k) ?_
  show Go _ _ _ _ (s₁.setTop (mkF m 1 #[rv sb] [(.ref sb)]))
  obtain ⟨_, _, ⟨T1, L1, kk1, nn1⟩, -, X1, ⟨Lc1, hQ1, lq1, yq1, zq1⟩, st1⟩ := superBack X0 hx hZ (y := (⟨"java/lang/AbstractStringBuilder", "length", "()I"⟩ : MethodName)) hown (w220 hw) (same_self (w216 hw) (nf_same (y := (⟨"java/lang/AbstractStringBuilder", "length", "()I"⟩ : MethodName)) (y' := (⟨"java/lang/AbstractStringBuilder", "ensureCapacityInternal", "(I)V"⟩ : MethodName)) rfl (w172 hw) (notFace_of_selects (w174 hw))) (by decide)) (w216 hw) (w156 hw) (by decide) (backOf (W := 0) (rm_asb_len4 l Z a0 hw [] sb h0 n0 (Nat.le_trans Z0 (Nat.le_refl _)) H0 H1) hZ (w221 hw) (w141 hw) (by decide) (by decide)) e0 (a := sb) (Ins.self H0) (g := (mkF m 1 #[rv sb] [(.ref sb)])) rfl (by rw [hml]; rfl) (w221 hw) (argsL := []) (rest := []) (lenOf pd_5 rfl) rfl (by show 2 * 0 + _ ≤ _; exact Nat.le_of_eq rfl) (hb hby d27_1) (fun _ _ => ⟨rfl, e0, (by decide : 0 + 0 ≤ _), (by decide : 0 + 0 ≤ _)⟩)
  dsimp only [Pt.U, Pt.locs, Pt.cells, Pt.slots] at X1 lq1 yq1 zq1 st1 hQ1
  obtain rfl : kk1 = 0 := yq1
  obtain rfl : nn1 = 0 := zq1
  obtain ⟨h1, e1⟩ : ∃ z, T1.heap = z := ⟨_, rfl⟩
  rw [e1] at hQ1
  obtain ⟨rfl, N1q, he1⟩ := hQ1
  have N1 : Fr n0 L1 := by rw [lq1]; exact Fr.app N0 N1q
  rw [he1] at e1
  refine go_tr st1 ?_
  show Go _ _ _ _ (T1.setTop (mkF m 4 #[rv sb] [(.int 4)]))
  obtain ⟨fs, hr, hrun, hended, hW, hsame⟩ := X1.leave (v := some (.int 4)) (fun h => by rw [Bd.returns] at h; cases h)
  refine ⟨_, _, ?_, hrun, hended, _, _, rfl, ?_, ⟨_, rfl⟩, hW, hsame.mono (by decide) (by decide)⟩
  · exact retI X1 hx Bd.returns (hb hby d27_4) hr
  · show Q_sb_len4 _ _ _ _ _ T1.heap _
    rw [e1]
    exact ⟨rfl, N1, rfl⟩
def Q_isl (Z : State) (sb : Addr) (G1 : Int32) (h0 : Heap) (n0 : Nat) (vR : Option Value) (h : Heap) (L : List Loc) : Prop := vR = some (.int 1) ∧ Fr n0 L ∧ h = h0
theorem ef_isl (m : MethodId) (x0 : Addr) : entryFrame m #[(.ref x0)] 1 = mkF m 0 #[.val (.ref x0)] [] := by first | (simp [entryFrame, mkF, argsToLocals, Value.category]; done) | rfl
set_option maxRecDepth 65536 in
set_option maxHeartbeats 40000000 in
theorem rm_isl (l : Launch) (Z : State) (a0 : Array Value) (hw : ∀ d ∈ tables_1, d.before a0 Z = true) (ws : List Jvm.Cond) (sb : Addr) (G1 : Int32) (h0 : Heap) (n0 : Nat) (Z0 : n0 ≤ h0.size) (H0 : Fld Z h0 sb "java/lang/AbstractStringBuilder" "coder" "B" (.int 0)) (CS : Sta Z Z.heap "java/lang/String" "COMPACT_STRINGS" "Z" (.int G1)) (CSn : ¬ (G1 = (0 : Int32))) (O0 : Old Z n0 h0) :
    MetFree l (⟨"java/lang/AbstractStringBuilder", "isLatin1", "()Z"⟩ : MethodName) (head1 (Jvm.Cond.code (⟨"java/lang/AbstractStringBuilder", "isLatin1", "()Z"⟩ : MethodName) jdk_68_method_68_code 1 (some .boolean) :: ws) ({ frames := 0, cells := 0, slots := 0, locals := 0 } : Room)) (fun a U => a = #[(.ref sb)] ∧ Z.Warmed39 U.vm ∧ U.heap = h0) (fun _ _ _ _ _ => True) (fun _ U o U' => ∃ v L, o = .returned v ∧ Q_isl Z sb G1 h0 n0 v U'.heap L ∧ FrameEnd U o U' L ({ frames := 0, cells := 0, slots := 0, locals := 0 } : Room).cells ({ frames := 0, cells := 0, slots := 0, locals := 0 } : Room).slots) := by
  refine MetFree.of_bodySF (plainFor_of_name pn_java_lang_AbstractStringBuilder) hisR ?_
  intro p e s m args below meth c s₁ Bd hml0 hP hK
  obtain ⟨rfl, hZ, hh⟩ := hP
  have hx := Bd.exec
  have hby := Bd.bytes
  have hml : c.maxLocals = 1 := hml0
  have hown : s.vm.findClass "java/lang/AbstractStringBuilder" = some m.cls := findClass_of_methodNamed Bd.named
  have hnm := (name_of_methodNamed Bd.named Bd.method).1
  have X0 : Stand p l e ({ frames := 0, cells := 0, slots := 0, locals := 0 } : Room) s m #[(.ref sb)] below meth c s₁ [] 0 0 := Stand.of_body Bd
  have e0 : s₁.heap = h0 := by rw [← hh, Bd.state]; rfl
  have N0 := Fr.nil n0
  refine go_st (fun t k => castTop (ef_isl m sb) k) ?_
  show Go _ _ _ _ (s₁.setTop (mkF m 0 #[rv sb] []))
  obtain ⟨T1, X1, e1, st1⟩ := getS2 X0 hx hZ hown (host := "") (Or.inl (w144 hw)) Via.refl e0 (Sta.ext O0.2 CS) (g := (mkF m 0 #[rv sb] [])) rfl (hb hby d29_0)
  refine go_st (fun t k => st1 t k) ?_
  show Go _ _ _ _ (T1.setTop (mkF m 3 #[rv sb] [(.int G1)]))
  refine go_st (fun t k => XS.ifNo X1.here hx rfl (hb hby d29_3) rfl ((if0 _ _).trans (feq (CSn : ¬ (G1 = (0 : Int32)))).1) k) ?_
  show Go _ _ _ _ (T1.setTop (mkF m 6 #[rv sb] []))
  refine go_st (fun t k => XS.aloadN X1.here hx rfl (hb hby d29_6) rfl rfl k) ?_
  show Go _ _ _ _ (T1.setTop (mkF m 7 #[rv sb] [(.ref sb)]))
  obtain ⟨T2, X2, e2, st2⟩ := getF X1 hx hZ hown (host := "") (Or.inl (w147 hw)) Via.refl e1 H0 (g := (mkF m 7 #[rv sb] [(.ref sb)])) rfl rfl (hb hby d29_7)
  refine go_st (fun t k => st2 t k) ?_
  show Go _ _ _ _ (T2.setTop (mkF m 10 #[rv sb] [(.int 0)]))
  refine go_st (fun t k => XS.ifNo X2.here hx rfl (hb hby d29_10) rfl ((if0 _ _).trans (teq ((by decide) : (0 : Int32) = (0 : Int32))).2) k) ?_
  show Go _ _ _ _ (T2.setTop (mkF m 13 #[rv sb] []))
  refine go_st (fun t k => XS.iconst X2.here hx rfl (hb hby d29_13) k) ?_
  show Go _ _ _ _ (T2.setTop (mkF m 14 #[rv sb] [(.int 1)]))
  refine go_st (fun t k => XS.goto X2.here hx rfl (pc0 := 14) (pc' := 18) rfl (hb hby d29_14) (by decide) (by decide) k) ?_
  show Go _ _ _ _ (T2.setTop (mkF m 18 #[rv sb] [(.int 1)]))
  obtain ⟨fs, hr, hrun, hended, hW, hsame⟩ := X2.leave (v := some (.int 1)) (fun h => by rw [Bd.returns] at h; cases h)
  refine ⟨_, _, ?_, hrun, hended, _, _, rfl, ?_, ⟨_, rfl⟩, hW, hsame.mono (by decide) (by decide)⟩
  · exact retN X2 hx (t := .boolean) Bd.returns (by simp) (hb hby d29_18) hr
  · show Q_isl _ _ _ _ _ _ T2.heap _
    rw [e2]
    exact ⟨rfl, N0, rfl⟩
def Q_chk4 (Z : State)  (h0 : Heap) (n0 : Nat) (vR : Option Value) (h : Heap) (L : List Loc) : Prop := vR = none ∧ Fr n0 L ∧ h = h0
theorem ef_chk4 (m : MethodId) (x0 : Int32) (x1 : Int32) : entryFrame m #[(.int x0), (.int x1)] 2 = mkF m 0 #[.val (.int x0), .val (.int x1)] [] := by first | (simp [entryFrame, mkF, argsToLocals, Value.category]; done) | rfl
set_option maxRecDepth 65536 in
set_option maxHeartbeats 40000000 in
theorem rm_chk4 (l : Launch) (Z : State) (a0 : Array Value) (hw : ∀ d ∈ tables_1, d.before a0 Z = true) (ws : List Jvm.Cond)  (h0 : Heap) (n0 : Nat) (Z0 : n0 ≤ h0.size)  :
    MetFree l (⟨"java/util/Arrays", "checkLength", "(II)V"⟩ : MethodName) (head1 (Jvm.Cond.code (⟨"java/util/Arrays", "checkLength", "(II)V"⟩ : MethodName) jdk_65_method_131_code 2 none :: ws) ({ frames := 0, cells := 0, slots := 0, locals := 0 } : Room)) (fun a U => a = #[(.int 0), (.int 4)] ∧ Z.Warmed39 U.vm ∧ U.heap = h0) (fun _ _ _ _ _ => True) (fun _ U o U' => ∃ v L, o = .returned v ∧ Q_chk4 Z h0 n0 v U'.heap L ∧ FrameEnd U o U' L ({ frames := 0, cells := 0, slots := 0, locals := 0 } : Room).cells ({ frames := 0, cells := 0, slots := 0, locals := 0 } : Room).slots) := by
  refine MetFree.of_bodySF (plainFor_of_name pn_java_util_Arrays) hisR ?_
  intro p e s m args below meth c s₁ Bd hml0 hP hK
  obtain ⟨rfl, hZ, hh⟩ := hP
  have hx := Bd.exec
  have hby := Bd.bytes
  have hml : c.maxLocals = 2 := hml0
  have hown : s.vm.findClass "java/util/Arrays" = some m.cls := findClass_of_methodNamed Bd.named
  have hnm := (name_of_methodNamed Bd.named Bd.method).1
  have X0 : Stand p l e ({ frames := 0, cells := 0, slots := 0, locals := 0 } : Room) s m #[(.int 0), (.int 4)] below meth c s₁ [] 0 0 := Stand.of_body Bd
  have e0 : s₁.heap = h0 := by rw [← hh, Bd.state]; rfl
  have N0 := Fr.nil n0
  refine go_st (fun t k => castTop (ef_chk4 m (0 : Int32) (4 : Int32)) k) ?_
  show Go _ _ _ _ (s₁.setTop (mkF m 0 #[iv 0, iv 4] []))
  refine go_st (fun t k => XS.iloadN X0.here hx rfl (hb hby d32_0) rfl k) ?_
  show Go _ _ _ _ (s₁.setTop (mkF m 1 #[iv 0, iv 4] [(.int 4)]))
  refine go_st (fun t k => XS.iloadN X0.here hx rfl (hb hby d32_1) rfl k) ?_
  show Go _ _ _ _ (s₁.setTop (mkF m 2 #[iv 0, iv 4] [(.int 0), (.int 4)]))
  refine go_st (fun t k => XS.icmpYes X0.here hx rfl (pc0 := 2) (pc' := 37) rfl (hb hby d32_2) rfl (flt ((by decide) : ¬ ((4 : Int32) < (0 : Int32)))).2.1 (by decide) (by decide) k) ?_
  show Go _ _ _ _ (s₁.setTop (mkF m 37 #[iv 0, iv 4] []))
  obtain ⟨fs, hr, hrun, hended, hW, hsame⟩ := X0.leave (v := none) (fun _ => rfl)
  refine ⟨_, _, ?_, hrun, hended, _, _, rfl, ?_, ⟨_, rfl⟩, hW, hsame.mono (by decide) (by decide)⟩
  · exact X0.returnOut hx Bd.returns (hb hby d32_37) hr
  · show Q_chk4 _ _ _ _ s₁.heap _
    rw [e0]
    exact ⟨rfl, N0, rfl⟩
def Q_min_16_4 (Z : State)  (h0 : Heap) (n0 : Nat) (vR : Option Value) (h : Heap) (L : List Loc) : Prop := vR = some (.int 4) ∧ Fr n0 L ∧ h = h0
theorem ef_min_16_4 (m : MethodId) (x0 : Int32) (x1 : Int32) : entryFrame m #[(.int x0), (.int x1)] 2 = mkF m 0 #[.val (.int x0), .val (.int x1)] [] := by first | (simp [entryFrame, mkF, argsToLocals, Value.category]; done) | rfl
set_option maxRecDepth 65536 in
set_option maxHeartbeats 40000000 in
theorem rm_min_16_4 (l : Launch) (Z : State) (a0 : Array Value) (hw : ∀ d ∈ tables_1, d.before a0 Z = true) (ws : List Jvm.Cond)  (h0 : Heap) (n0 : Nat) (Z0 : n0 ≤ h0.size)  :
    MetFree l (⟨"java/lang/Math", "min", "(II)I"⟩ : MethodName) (head1 (Jvm.Cond.code (⟨"java/lang/Math", "min", "(II)I"⟩ : MethodName) jdk_29_method_69_code 2 (some .int) :: ws) ({ frames := 0, cells := 0, slots := 0, locals := 0 } : Room)) (fun a U => a = #[(.int 16), (.int 4)] ∧ Z.Warmed39 U.vm ∧ U.heap = h0) (fun _ _ _ _ _ => True) (fun _ U o U' => ∃ v L, o = .returned v ∧ Q_min_16_4 Z h0 n0 v U'.heap L ∧ FrameEnd U o U' L ({ frames := 0, cells := 0, slots := 0, locals := 0 } : Room).cells ({ frames := 0, cells := 0, slots := 0, locals := 0 } : Room).slots) := by
  refine MetFree.of_bodySF (by decide +kernel) hisR ?_
  intro p e s m args below meth c s₁ Bd hml0 hP hK
  obtain ⟨rfl, hZ, hh⟩ := hP
  have hx := Bd.exec
  have hby := Bd.bytes
  have hml : c.maxLocals = 2 := hml0
  have hown : s.vm.findClass "java/lang/Math" = some m.cls := findClass_of_methodNamed Bd.named
  have hnm := (name_of_methodNamed Bd.named Bd.method).1
  have X0 : Stand p l e ({ frames := 0, cells := 0, slots := 0, locals := 0 } : Room) s m #[(.int 16), (.int 4)] below meth c s₁ [] 0 0 := Stand.of_body Bd
  have e0 : s₁.heap = h0 := by rw [← hh, Bd.state]; rfl
  have N0 := Fr.nil n0
  refine go_st (fun t k => castTop (ef_min_16_4 m (16 : Int32) (4 : Int32)) k) ?_
  show Go _ _ _ _ (s₁.setTop (mkF m 0 #[iv 16, iv 4] []))
  refine go_st (fun t k => XS.iloadN X0.here hx rfl (hb hby d33_0) rfl k) ?_
  show Go _ _ _ _ (s₁.setTop (mkF m 1 #[iv 16, iv 4] [(.int 16)]))
  refine go_st (fun t k => XS.iloadN X0.here hx rfl (hb hby d33_1) rfl k) ?_
  show Go _ _ _ _ (s₁.setTop (mkF m 2 #[iv 16, iv 4] [(.int 4), (.int 16)]))
  refine go_st (fun t k => XS.icmpYes X0.here hx rfl (pc0 := 2) (pc' := 9) rfl (hb hby d33_2) rfl (tlt ((by decide) : (4 : Int32) < (16 : Int32))).2.2.1 (by decide) (by decide) k) ?_
  show Go _ _ _ _ (s₁.setTop (mkF m 9 #[iv 16, iv 4] []))
  refine go_st (fun t k => XS.iloadN X0.here hx rfl (hb hby d33_9) rfl k) ?_
  show Go _ _ _ _ (s₁.setTop (mkF m 10 #[iv 16, iv 4] [(.int 4)]))
  obtain ⟨fs, hr, hrun, hended, hW, hsame⟩ := X0.leave (v := some (.int 4)) (fun h => by rw [Bd.returns] at h; cases h)
  refine ⟨_, _, ?_, hrun, hended, _, _, rfl, ?_, ⟨_, rfl⟩, hW, hsame.mono (by decide) (by decide)⟩
  · exact retI X0 hx Bd.returns (hb hby d33_10) hr
  · show Q_min_16_4 _ _ _ _ s₁.heap _
    rw [e0]
    exact ⟨rfl, N0, rfl⟩
def Q_crb4 (Z : State) (va : Addr) (kv : ClassId) (u0 : Int32) (u1 : Int32) (u2 : Int32) (u3 : Int32) (h0 : Heap) (n0 : Nat) (vR : Option Value) (h : Heap) (L : List Loc) : Prop := ∃ (ta : Addr) (kt : ClassId), vR = some (.ref ta) ∧ Fr n0 L ∧ Keep h0 h [] ∧ n0 ≤ ta ∧ h0.size ≤ ta ∧ (Arv Z h ta kt .byte (4 : Int32) [(.int u0), (.int u1), (.int u2), (.int u3)] (.int (0 : Int32)))
theorem ef_crb4 (m : MethodId) (x0 : Addr) (x1 : Int32) (x2 : Int32) : entryFrame m #[(.ref x0), (.int x1), (.int x2)] 5 = mkF m 0 #[.val (.ref x0), .val (.int x1), .val (.int x2), .unset, .unset] [] := by first | (simp [entryFrame, mkF, argsToLocals, Value.category]; done) | rfl
set_option maxRecDepth 65536 in
set_option maxHeartbeats 40000000 in
theorem rm_crb4 (l : Launch) (Z : State) (a0 : Array Value) (hw : ∀ d ∈ tables_1, d.before a0 Z = true) (ws : List Jvm.Cond) (va : Addr) (kv : ClassId) (u0 : Int32) (u1 : Int32) (u2 : Int32) (u3 : Int32) (h0 : Heap) (n0 : Nat) (Z0 : n0 ≤ h0.size) (H0 : Arv Z h0 va kv .byte (16 : Int32) [(.int u0), (.int u1), (.int u2), (.int u3)] (.int (0 : Int32))) :
    MetFree l (⟨"java/util/Arrays", "copyOfRangeByte", "([BII)[B"⟩ : MethodName) (head1 (Jvm.Cond.code (⟨"java/util/Arrays", "copyOfRangeByte", "([BII)[B"⟩ : MethodName) jdk_65_method_133_code 5 (some (.array .byte)) :: ws) ({ frames := 1, cells := 1, slots := 4, locals := 18 } : Room)) (fun a U => a = #[(.ref va), (.int 0), (.int 4)] ∧ Z.Warmed39 U.vm ∧ U.heap = h0) (fun _ _ _ _ _ => True) (fun _ U o U' => ∃ v L, o = .returned v ∧ Q_crb4 Z va kv u0 u1 u2 u3 h0 n0 v U'.heap L ∧ FrameEnd U o U' L ({ frames := 1, cells := 1, slots := 4, locals := 18 } : Room).cells ({ frames := 1, cells := 1, slots := 4, locals := 18 } : Room).slots) := by
  refine MetFree.of_bodySF (plainFor_of_name pn_java_util_Arrays) hisR ?_
  intro p e s m args below meth c s₁ Bd hml0 hP hK
  obtain ⟨rfl, hZ, hh⟩ := hP
  have hx := Bd.exec
  have hby := Bd.bytes
  have hml : c.maxLocals = 5 := hml0
  have hown : s.vm.findClass "java/util/Arrays" = some m.cls := findClass_of_methodNamed Bd.named
  have hnm := (name_of_methodNamed Bd.named Bd.method).1
  have X0 : Stand p l e ({ frames := 1, cells := 1, slots := 4, locals := 18 } : Room) s m #[(.ref va), (.int 0), (.int 4)] below meth c s₁ [] 0 0 := Stand.of_body Bd
  have e0 : s₁.heap = h0 := by rw [← hh, Bd.state]; rfl
  have N0 := Fr.nil n0
  refine go_st (fun t k => castTop (ef_crb4 m va (0 : Int32) (4 : Int32)) k) ?_
  show Go _ _ _ _ (s₁.setTop (mkF m 0 #[rv va, iv 0, iv 4, .unset, .unset] []))
  refine go_st (fun t k => XS.iloadN X0.here hx rfl (hb hby d31_0) rfl k) ?_
  show Go _ _ _ _ (s₁.setTop (mkF m 1 #[rv va, iv 0, iv 4, .unset, .unset] [(.int 0)]))
  refine go_st (fun t k => XS.iloadN X0.here hx rfl (hb hby d31_1) rfl k) ?_
  show Go _ _ _ _ (s₁.setTop (mkF m 2 #[rv va, iv 0, iv 4, .unset, .unset] [(.int 4), (.int 0)]))
  obtain ⟨_, _, ⟨T1, L1, kk1, nn1⟩, -, X1, ⟨Lc1, hQ1, lq1, yq1, zq1⟩, st1⟩ := Jvm.LawKit.callS X0 hx (y := (⟨"java/util/Arrays", "checkLength", "(II)V"⟩ : MethodName)) hown (mvT hZ (w234 hw)) (mvT hZ (w235 hw)) (mvT hZ (w229 hw)) (mvT hZ (w236 hw)) (by decide) (backOf (W := 0) (rm_chk4 l Z a0 hw []  h0 n0 (Nat.le_trans Z0 (Nat.le_refl _)) ) hZ (w236 hw) (w229 hw) (by decide) (by decide)) (g := (mkF m 2 #[rv va, iv 0, iv 4, .unset, .unset] [(.int 4), (.int 0)])) rfl (by rw [hml]; rfl) (argsL := [(.int 0), (.int 4)]) (rest := []) (lenOf pd_12 rfl) rfl (by show 2 * 0 + _ ≤ _; exact Nat.le_of_eq rfl) (hb hby d31_2) (fun _ _ => ⟨rfl, e0, (by decide : 0 + 0 ≤ _), (by decide : 0 + 0 ≤ _)⟩)
  dsimp only [Pt.U, Pt.locs, Pt.cells, Pt.slots] at X1 lq1 yq1 zq1 st1 hQ1
  obtain rfl : kk1 = 0 := yq1
  obtain rfl : nn1 = 0 := zq1
  obtain ⟨h1, e1⟩ : ∃ z, T1.heap = z := ⟨_, rfl⟩
  rw [e1] at hQ1
  obtain ⟨rfl, N1q, he1⟩ := hQ1
  have N1 : Fr n0 L1 := by rw [lq1]; exact Fr.app N0 N1q
  rw [he1] at e1
  refine go_st st1 ?_
  show Go _ _ _ _ (T1.setTop (mkF m 5 #[rv va, iv 0, iv 4, .unset, .unset] []))
  refine go_st (fun t k => XS.iloadN X1.here hx rfl (hb hby d31_5) rfl k) ?_
  show Go _ _ _ _ (T1.setTop (mkF m 6 #[rv va, iv 0, iv 4, .unset, .unset] [(.int 4)]))
  refine go_st (fun t k => XS.iloadN X1.here hx rfl (hb hby d31_6) rfl k) ?_
  show Go _ _ _ _ (T1.setTop (mkF m 7 #[rv va, iv 0, iv 4, .unset, .unset] [(.int 0), (.int 4)]))
  refine go_st (fun t k => XS.isub X1.here hx rfl (hb hby d31_7) rfl k) ?_
  rw [show ((4 : Int32) - (0 : Int32)) = (4 : Int32) from by decide]
  show Go _ _ _ _ (T1.setTop (mkF m 8 #[rv va, iv 0, iv 4, .unset, .unset] [(.int 4)]))
  refine go_st (fun t k => XS.istoreN X1.here hx rfl (hb hby d31_8) rfl (l' := #[rv va, iv 0, iv 4, iv 4, .unset]) rfl k) ?_
  show Go _ _ _ _ (T1.setTop (mkF m 9 #[rv va, iv 0, iv 4, iv 4, .unset] []))
  refine go_st (fun t k => XS.iloadN X1.here hx rfl (hb hby d31_9) rfl k) ?_
  show Go _ _ _ _ (T1.setTop (mkF m 10 #[rv va, iv 0, iv 4, iv 4, .unset] [(.int 4)]))
  obtain ⟨T2, h2, kc2, X2, e2, E2, A2, st2⟩ := newP X1 hx hZ (aty := .byte) (w27 hw) e1 (g := (mkF m 10 #[rv va, iv 0, iv 4, iv 4, .unset] [(.int 4)])) rfl (hb hby d31_10) rfl (by decide) (cap := 4) (by decide) (by decide) (by decide) (by decide)
  obtain ⟨b2, gq2⟩ : ∃ z, z = h0.size := ⟨_, rfl⟩
  rw [← gq2] at A2 st2
  have f3 : Arv Z h2 b2 kc2 .byte (4 : Int32) [(.int 0), (.int 0), (.int 0), (.int 0)] (.int 0) := (Arv.new A2 (by decide)).pad (pad_rep [] (.int 0) 4)
  refine go_st (fun t k => st2 t k) ?_
  show Go _ _ _ _ (T2.setTop (mkF m 12 #[rv va, iv 0, iv 4, iv 4, .unset] [(.ref b2)]))
  refine go_st (fun t k => XS.astore X2.here hx rfl (hb hby d31_12) rfl rfl (l' := #[rv va, iv 0, iv 4, iv 4, rv b2]) rfl k) ?_
  show Go _ _ _ _ (T2.setTop (mkF m 14 #[rv va, iv 0, iv 4, iv 4, rv b2] []))
  refine go_st (fun t k => XS.aloadN X2.here hx rfl (hb hby d31_14) rfl rfl k) ?_
  show Go _ _ _ _ (T2.setTop (mkF m 15 #[rv va, iv 0, iv 4, iv 4, rv b2] [(.ref va)]))
  refine go_st (fun t k => XS.iloadN X2.here hx rfl (hb hby d31_15) rfl k) ?_
  show Go _ _ _ _ (T2.setTop (mkF m 16 #[rv va, iv 0, iv 4, iv 4, rv b2] [(.int 0), (.ref va)]))
  refine go_st (fun t k => XS.aload X2.here hx rfl (hb hby d31_16) rfl rfl k) ?_
  show Go _ _ _ _ (T2.setTop (mkF m 18 #[rv va, iv 0, iv 4, iv 4, rv b2] [(.ref b2), (.int 0), (.ref va)]))
  refine go_st (fun t k => XS.iconst X2.here hx rfl (hb hby d31_18) k) ?_
  show Go _ _ _ _ (T2.setTop (mkF m 19 #[rv va, iv 0, iv 4, iv 4, rv b2] [(.int 0), (.ref b2), (.int 0), (.ref va)]))
  refine go_st (fun t k => XS.aloadN X2.here hx rfl (hb hby d31_19) rfl rfl k) ?_
  show Go _ _ _ _ (T2.setTop (mkF m 20 #[rv va, iv 0, iv 4, iv 4, rv b2] [(.ref va), (.int 0), (.ref b2), (.int 0), (.ref va)]))
  have f4 : Arv Z h2 va kv .byte (16 : Int32) [(.int u0), (.int u1), (.int u2), (.int u3)] (.int (0 : Int32)) := (H0.ext E2)
  obtain ⟨zc5, zA5, zq5, zS5, zN5, zH5, zG5⟩ := id f4
  refine go_st (fun t k => X2.arraylength hx (by rw [e2]; exact zA5.1) (State.isArrayOf_alike hZ.alike zA5.2.1) (g := (mkF m 20 #[rv va, iv 0, iv 4, iv 4, rv b2] [(.ref va), (.int 0), (.ref b2), (.int 0), (.ref va)])) rfl rfl (hb hby d31_20) t k) ?_
  rw [len_of zS5 zN5]
  show Go _ _ _ _ (T2.setTop (mkF m 21 #[rv va, iv 0, iv 4, iv 4, rv b2] [(.int 16), (.int 0), (.ref b2), (.int 0), (.ref va)]))
  refine go_st (fun t k => XS.iloadN X2.here hx rfl (hb hby d31_21) rfl k) ?_
  show Go _ _ _ _ (T2.setTop (mkF m 22 #[rv va, iv 0, iv 4, iv 4, rv b2] [(.int 0), (.int 16), (.int 0), (.ref b2), (.int 0), (.ref va)]))
  refine go_st (fun t k => XS.isub X2.here hx rfl (hb hby d31_22) rfl k) ?_
  rw [show ((16 : Int32) - (0 : Int32)) = (16 : Int32) from by decide]
  show Go _ _ _ _ (T2.setTop (mkF m 23 #[rv va, iv 0, iv 4, iv 4, rv b2] [(.int 16), (.int 0), (.ref b2), (.int 0), (.ref va)]))
  refine go_st (fun t k => XS.iloadN X2.here hx rfl (hb hby d31_23) rfl k) ?_
  show Go _ _ _ _ (T2.setTop (mkF m 24 #[rv va, iv 0, iv 4, iv 4, rv b2] [(.int 4), (.int 16), (.int 0), (.ref b2), (.int 0), (.ref va)]))
  obtain ⟨_, _, ⟨T6, L6, kk6, nn6⟩, -, X6, ⟨Lc6, hQ6, lq6, yq6, zq6⟩, st6⟩ := Jvm.LawKit.callS X2 hx (y := (⟨"java/lang/Math", "min", "(II)I"⟩ : MethodName)) hown (mvT hZ (w237 hw)) (mvT hZ (w238 hw)) (mvT hZ (w239 hw)) (mvT hZ (w240 hw)) (by decide) (backOf (W := 4) (rm_min_16_4 l Z a0 hw []  h2 n0 (Nat.le_trans Z0 E2.1) ) hZ (w240 hw) (w239 hw) (by decide) (by decide)) (g := (mkF m 24 #[rv va, iv 0, iv 4, iv 4, rv b2] [(.int 4), (.int 16), (.int 0), (.ref b2), (.int 0), (.ref va)])) rfl (by rw [hml]; rfl) (argsL := [(.int 16), (.int 4)]) (rest := [(.int 0), (.ref b2), (.int 0), (.ref va)]) (lenOf pd_13 rfl) rfl (by show 2 * 0 + _ ≤ _; exact Nat.le_of_eq rfl) (hb hby d31_24) (fun _ _ => ⟨rfl, e2, (by decide : 1 + 0 ≤ _), (by decide : 4 + 0 ≤ _)⟩)
  dsimp only [Pt.U, Pt.locs, Pt.cells, Pt.slots] at X6 lq6 yq6 zq6 st6 hQ6
  obtain rfl : kk6 = 1 := yq6
  obtain rfl : nn6 = 4 := zq6
  obtain ⟨h6, e6⟩ : ∃ z, T6.heap = z := ⟨_, rfl⟩
  rw [e6] at hQ6
  obtain ⟨rfl, N6q, he6⟩ := hQ6
  have N6 : Fr n0 L6 := by rw [lq6]; exact Fr.app N1 N6q
  rw [he6] at e6
  refine go_st st6 ?_
  show Go _ _ _ _ (T6.setTop (mkF m 27 #[rv va, iv 0, iv 4, iv 4, rv b2] [(.int 4), (.int 0), (.ref b2), (.int 0), (.ref va)]))
  have g_b2 : n0 ≤ b2 := Nat.le_trans (Nat.le_trans Z0 (Nat.le_refl _)) (Nat.le_of_eq gq2.symm)
  obtain ⟨T7, h7, L7, X7, e7, N7, K7, A7, st7⟩ := cpA X6 hx hZ hown (w241 hw) (w195 hw) (w193 hw) (w194 hw) e6 f4 f3 (Or.inl ⟨rfl, rfl⟩) (sp := (0 : Int32)) (dp := (0 : Int32)) (nn := (4 : Int32)) (us := [(.int u0), (.int u1), (.int u2), (.int u3)]) (by decide) (by decide) (by decide) (by decide) (by decide) rfl (Nat.le_of_ble_eq_true rfl) N6 g_b2 (g := (mkF m 27 #[rv va, iv 0, iv 4, iv 4, rv b2] [(.int 4), (.int 0), (.ref b2), (.int 0), (.ref va)])) rfl (by rw [hml]; rfl) rfl (hb hby d31_27) (by decide) (W := 0) (by show 2 * 0 + _ ≤ _; exact Nat.le_of_eq rfl) (by decide)
  have f8 : Arv Z h7 b2 kc2 .byte (4 : Int32) [(.int u0), (.int u1), (.int u2), (.int u3)] (.int 0) := A7
  refine go_st (fun t k => st7 t k) ?_
  show Go _ _ _ _ (T7.setTop (mkF m 30 #[rv va, iv 0, iv 4, iv 4, rv b2] []))
  refine go_st (fun t k => XS.aload X7.here hx rfl (hb hby d31_30) rfl rfl k) ?_
  show Go _ _ _ _ (T7.setTop (mkF m 32 #[rv va, iv 0, iv 4, iv 4, rv b2] [(.ref b2)]))
  have ke9 : Keep h0 h2 [] := (Keep.ext (Keep.refl h0 []) E2)
  have ke10 : Keep h0 h7 [] := (Keep.trans ke9 K7 (allS (Or.inr (Nat.le_of_eq gq2.symm)) all0))
  obtain ⟨fs, hr, hrun, hended, hW, hsame⟩ := X7.leave (v := some (.ref b2)) (fun h => by rw [Bd.returns] at h; cases h)
  refine ⟨_, _, ?_, hrun, hended, _, _, rfl, ?_, ⟨_, rfl⟩, hW, hsame.mono (by decide) (by decide)⟩
  · exact retOut X7 hx Bd.returns rfl (Or.inr (Or.inr (Or.inr (Or.inr ⟨rfl, rfl, rfl⟩)))) (hb hby d31_32) hr
  · show Q_crb4 _ _ _ _ _ _ _ _ _ _ T7.heap _
    rw [e7]
    exact ⟨b2, kc2, rfl, N7, ke10, g_b2, (Nat.le_of_eq gq2.symm), f8⟩
def Q_cr4 (Z : State) (va : Addr) (kv : ClassId) (u0 : Int32) (u1 : Int32) (u2 : Int32) (u3 : Int32) (h0 : Heap) (n0 : Nat) (vR : Option Value) (h : Heap) (L : List Loc) : Prop := ∃ (ta : Addr) (kt : ClassId), vR = some (.ref ta) ∧ Fr n0 L ∧ Keep h0 h [] ∧ n0 ≤ ta ∧ h0.size ≤ ta ∧ (Arv Z h ta kt .byte (4 : Int32) [(.int u0), (.int u1), (.int u2), (.int u3)] (.int (0 : Int32)))
theorem ef_cr4 (m : MethodId) (x0 : Addr) (x1 : Int32) (x2 : Int32) : entryFrame m #[(.ref x0), (.int x1), (.int x2)] 3 = mkF m 0 #[.val (.ref x0), .val (.int x1), .val (.int x2)] [] := by first | (simp [entryFrame, mkF, argsToLocals, Value.category]; done) | rfl
set_option maxRecDepth 65536 in
set_option maxHeartbeats 40000000 in
theorem rm_cr4 (l : Launch) (Z : State) (a0 : Array Value) (hw : ∀ d ∈ tables_1, d.before a0 Z = true) (ws : List Jvm.Cond) (va : Addr) (kv : ClassId) (u0 : Int32) (u1 : Int32) (u2 : Int32) (u3 : Int32) (h0 : Heap) (n0 : Nat) (Z0 : n0 ≤ h0.size) (H0 : Arv Z h0 va kv .byte (16 : Int32) [(.int u0), (.int u1), (.int u2), (.int u3)] (.int (0 : Int32))) :
    MetFree l (⟨"java/util/Arrays", "copyOfRange", "([BII)[B"⟩ : MethodName) (head1 (Jvm.Cond.code (⟨"java/util/Arrays", "copyOfRange", "([BII)[B"⟩ : MethodName) jdk_65_method_132_code 3 (some (.array .byte)) :: ws) ({ frames := 2, cells := 1, slots := 4, locals := 34 } : Room)) (fun a U => a = #[(.ref va), (.int 0), (.int 4)] ∧ Z.Warmed39 U.vm ∧ U.heap = h0) (fun _ _ _ _ _ => True) (fun _ U o U' => ∃ v L, o = .returned v ∧ Q_cr4 Z va kv u0 u1 u2 u3 h0 n0 v U'.heap L ∧ FrameEnd U o U' L ({ frames := 2, cells := 1, slots := 4, locals := 34 } : Room).cells ({ frames := 2, cells := 1, slots := 4, locals := 34 } : Room).slots) := by
  refine MetFree.of_bodySF (plainFor_of_name pn_java_util_Arrays) hisR ?_
  intro p e s m args below meth c s₁ Bd hml0 hP hK
  obtain ⟨rfl, hZ, hh⟩ := hP
  have hx := Bd.exec
  have hby := Bd.bytes
  have hml : c.maxLocals = 3 := hml0
  have hown : s.vm.findClass "java/util/Arrays" = some m.cls := findClass_of_methodNamed Bd.named
  have hnm := (name_of_methodNamed Bd.named Bd.method).1
  have X0 : Stand p l e ({ frames := 2, cells := 1, slots := 4, locals := 34 } : Room) s m #[(.ref va), (.int 0), (.int 4)] below meth c s₁ [] 0 0 := Stand.of_body Bd
  have e0 : s₁.heap = h0 := by rw [← hh, Bd.state]; rfl
  have N0 := Fr.nil n0
  refine go_st (fun t k => castTop (ef_cr4 m va (0 : Int32) (4 : Int32)) k) ?_
  show Go _ _ _ _ (s₁.setTop (mkF m 0 #[rv va, iv 0, iv 4] []))
  refine go_st (fun t k => XS.iloadN X0.here hx rfl (hb hby d30_0) rfl k) ?_
  show Go _ _ _ _ (s₁.setTop (mkF m 1 #[rv va, iv 0, iv 4] [(.int 0)]))
  refine go_st (fun t k => XS.ifNo X0.here hx rfl (hb hby d30_1) rfl ((if0 _ _).trans (teq ((by decide) : (0 : Int32) = (0 : Int32))).2) k) ?_
  show Go _ _ _ _ (s₁.setTop (mkF m 4 #[rv va, iv 0, iv 4] []))
  refine go_st (fun t k => XS.iloadN X0.here hx rfl (hb hby d30_4) rfl k) ?_
  show Go _ _ _ _ (s₁.setTop (mkF m 5 #[rv va, iv 0, iv 4] [(.int 4)]))
  refine go_st (fun t k => XS.aloadN X0.here hx rfl (hb hby d30_5) rfl rfl k) ?_
  show Go _ _ _ _ (s₁.setTop (mkF m 6 #[rv va, iv 0, iv 4] [(.ref va), (.int 4)]))
  obtain ⟨zc1, zA1, zq1, zS1, zN1, zH1, zG1⟩ := id H0
  refine go_st (fun t k => X0.arraylength hx (by rw [e0]; exact zA1.1) (State.isArrayOf_alike hZ.alike zA1.2.1) (g := (mkF m 6 #[rv va, iv 0, iv 4] [(.ref va), (.int 4)])) rfl rfl (hb hby d30_6) t k) ?_
  rw [len_of zS1 zN1]
  show Go _ _ _ _ (s₁.setTop (mkF m 7 #[rv va, iv 0, iv 4] [(.int 16), (.int 4)]))
  refine go_st (fun t k => XS.icmpNo X0.here hx rfl (hb hby d30_7) rfl (feq ((by decide) : ¬ ((4 : Int32) = (16 : Int32)))).1 k) ?_
  show Go _ _ _ _ (s₁.setTop (mkF m 10 #[rv va, iv 0, iv 4] []))
  refine go_st (fun t k => XS.aloadN X0.here hx rfl (hb hby d30_10) rfl rfl k) ?_
  show Go _ _ _ _ (s₁.setTop (mkF m 11 #[rv va, iv 0, iv 4] [(.ref va)]))
  refine go_st (fun t k => XS.iloadN X0.here hx rfl (hb hby d30_11) rfl k) ?_
  show Go _ _ _ _ (s₁.setTop (mkF m 12 #[rv va, iv 0, iv 4] [(.int 0), (.ref va)]))
  refine go_st (fun t k => XS.iloadN X0.here hx rfl (hb hby d30_12) rfl k) ?_
  show Go _ _ _ _ (s₁.setTop (mkF m 13 #[rv va, iv 0, iv 4] [(.int 4), (.int 0), (.ref va)]))
  obtain ⟨_, _, ⟨T2, L2, kk2, nn2⟩, -, X2, ⟨Lc2, hQ2, lq2, yq2, zq2⟩, st2⟩ := Jvm.LawKit.callS X0 hx (y := (⟨"java/util/Arrays", "copyOfRangeByte", "([BII)[B"⟩ : MethodName)) hown (mvT hZ (w231 hw)) (mvT hZ (w232 hw)) (mvT hZ (w229 hw)) (mvT hZ (w233 hw)) (by decide) (backOf (W := 0) (rm_crb4 l Z a0 hw [] va kv u0 u1 u2 u3 h0 n0 (Nat.le_trans Z0 (Nat.le_refl _)) H0) hZ (w233 hw) (w229 hw) (by decide) (by decide)) (g := (mkF m 13 #[rv va, iv 0, iv 4] [(.int 4), (.int 0), (.ref va)])) rfl (by rw [hml]; rfl) (argsL := [(.ref va), (.int 0), (.int 4)]) (rest := []) (lenOf pd_14 rfl) rfl (by show 2 * 0 + _ ≤ _; exact Nat.le_of_eq rfl) (hb hby d30_13) (fun _ _ => ⟨rfl, e0, (by decide : 0 + 1 ≤ _), (by decide : 0 + 4 ≤ _)⟩)
  dsimp only [Pt.U, Pt.locs, Pt.cells, Pt.slots] at X2 lq2 yq2 zq2 st2 hQ2
  obtain rfl : kk2 = 1 := yq2
  obtain rfl : nn2 = 4 := zq2
  obtain ⟨h2, e2⟩ : ∃ z, T2.heap = z := ⟨_, rfl⟩
  rw [e2] at hQ2
  obtain ⟨ta_2, kt_2, rfl, N2q, K2, gf2_0, lf2_0, p2_1⟩ := hQ2
  have N2 : Fr n0 L2 := by rw [lq2]; exact Fr.app N0 N2q
  refine go_st st2 ?_
  show Go _ _ _ _ (T2.setTop (mkF m 16 #[rv va, iv 0, iv 4] [(.ref ta_2)]))
  have ke3 : Keep h0 h2 [] := (Keep.trans (Keep.refl h0 []) K2 all0)
  obtain ⟨fs, hr, hrun, hended, hW, hsame⟩ := X2.leave (v := some (.ref ta_2)) (fun h => by rw [Bd.returns] at h; cases h)
  refine ⟨_, _, ?_, hrun, hended, _, _, rfl, ?_, ⟨_, rfl⟩, hW, hsame.mono (by decide) (by decide)⟩
  · exact retOut X2 hx Bd.returns rfl (Or.inr (Or.inr (Or.inr (Or.inr ⟨rfl, rfl, rfl⟩)))) (hb hby d30_16) hr
  · show Q_cr4 _ _ _ _ _ _ _ _ _ _ T2.heap _
    rw [e2]
    exact ⟨ta_2, kt_2, rfl, N2, ke3, gf2_0, lf2_0, p2_1⟩
def Q_strasb4 (Z : State) (sa : Addr) (sb : Addr) (va : Addr) (kv : ClassId) (u0 : Int32) (u1 : Int32) (u2 : Int32) (u3 : Int32) (G1 : Int32) (h0 : Heap) (n0 : Nat) (vR : Option Value) (h : Heap) (L : List Loc) : Prop := ∃ (ta : Addr) (kt : ClassId), vR = none ∧ Fr n0 L ∧ Keep h0 h [sa] ∧ n0 ≤ ta ∧ h0.size ≤ ta ∧ (Exa Z h sa "java/lang/String") ∧ (Fld Z h sa "java/lang/String" "value" "[B" (.ref ta)) ∧ (Fld Z h sa "java/lang/String" "coder" "B" (.int 0)) ∧ (Arv Z h ta kt .byte (4 : Int32) [(.int u0), (.int u1), (.int u2), (.int u3)] (.int (0 : Int32)))
theorem ef_strasb4 (m : MethodId) (x0 : Addr) (x1 : Addr) : entryFrame m #[(.ref x0), (.ref x1), .null] 5 = mkF m 0 #[.val (.ref x0), .val (.ref x1), .val .null, .unset, .unset] [] := by first | (simp [entryFrame, mkF, argsToLocals, Value.category]; done) | rfl
set_option maxRecDepth 65536 in
set_option maxHeartbeats 40000000 in
theorem rm_strasb4 (l : Launch) (Z : State) (a0 : Array Value) (hw : ∀ d ∈ tables_1, d.before a0 Z = true) (ws : List Jvm.Cond) (sa : Addr) (sb : Addr) (va : Addr) (kv : ClassId) (u0 : Int32) (u1 : Int32) (u2 : Int32) (u3 : Int32) (G1 : Int32) (h0 : Heap) (n0 : Nat) (Z0 : n0 ≤ h0.size) (H0 : Exa Z h0 sa "java/lang/String") (H1 : Fld Z h0 sa "java/lang/String" "value" "[B" .null) (H2 : Fld Z h0 sa "java/lang/String" "coder" "B" (.int 0)) (g_sa : n0 ≤ sa) (H4 : Exa Z h0 sb "java/lang/StringBuilder") (H5 : Fld Z h0 sb "java/lang/AbstractStringBuilder" "value" "[B" (.ref va)) (H6 : Fld Z h0 sb "java/lang/AbstractStringBuilder" "coder" "B" (.int 0)) (H7 : Fld Z h0 sb "java/lang/AbstractStringBuilder" "count" "I" (.int 4)) (H8 : Arv Z h0 va kv .byte (16 : Int32) [(.int u0), (.int u1), (.int u2), (.int u3)] (.int (0 : Int32))) (CS : Sta Z Z.heap "java/lang/String" "COMPACT_STRINGS" "Z" (.int G1)) (CSn : ¬ (G1 = (0 : Int32))) (O0 : Old Z n0 h0) :
    MetFree l (⟨"java/lang/String", "<init>", "(Ljava/lang/AbstractStringBuilder;Ljava/lang/Void;)V"⟩ : MethodName) (head1 (Jvm.Cond.code (⟨"java/lang/String", "<init>", "(Ljava/lang/AbstractStringBuilder;Ljava/lang/Void;)V"⟩ : MethodName) jdk_42_method_150_code 5 none :: ws) ({ frames := 3, cells := 1, slots := 4, locals := 49 } : Room)) (fun a U => a = #[(.ref sa), (.ref sb), .null] ∧ Z.Warmed39 U.vm ∧ U.heap = h0) (fun _ _ _ _ _ => True) (fun _ U o U' => ∃ v L, o = .returned v ∧ Q_strasb4 Z sa sb va kv u0 u1 u2 u3 G1 h0 n0 v U'.heap L ∧ FrameEnd U o U' L ({ frames := 3, cells := 1, slots := 4, locals := 49 } : Room).cells ({ frames := 3, cells := 1, slots := 4, locals := 49 } : Room).slots) := by
  refine MetFree.of_bodySF (plainFor_of_name pn_java_lang_String) hisR ?_
  intro p e s m args below meth c s₁ Bd hml0 hP hK
  obtain ⟨rfl, hZ, hh⟩ := hP
  have hx := Bd.exec
  have hby := Bd.bytes
  have hml : c.maxLocals = 5 := hml0
  have hown : s.vm.findClass "java/lang/String" = some m.cls := findClass_of_methodNamed Bd.named
  have hnm := (name_of_methodNamed Bd.named Bd.method).1
  have X0 : Stand p l e ({ frames := 3, cells := 1, slots := 4, locals := 49 } : Room) s m #[(.ref sa), (.ref sb), .null] below meth c s₁ [] 0 0 := Stand.of_body Bd
  have e0 : s₁.heap = h0 := by rw [← hh, Bd.state]; rfl
  have N0 := Fr.nil n0
  refine go_st (fun t k => castTop (ef_strasb4 m sa sb) k) ?_
  show Go _ _ _ _ (s₁.setTop (mkF m 0 #[rv sa, rv sb, .val .null, .unset, .unset] []))
  refine go_st (fun t k => XS.aloadN X0.here hx rfl (hb hby d25_0) rfl rfl k) ?_
  show Go _ _ _ _ (s₁.setTop (mkF m 1 #[rv sa, rv sb, .val .null, .unset, .unset] [(.ref sa)]))
  obtain ⟨T1, X1, e1, st1⟩ := initO X0 hx hZ hown (w19 hw) (w20 hw) (w21 hw) e0 (g := (mkF m 1 #[rv sa, rv sb, .val .null, .unset, .unset] [(.ref sa)])) rfl (by rw [hml]; rfl) rfl (hb hby d25_1) (by decide) (W := 0) (by show 2 * 0 + _ ≤ _; exact Nat.le_of_eq rfl) (by decide)
  refine go_st (fun t k => st1 t k) ?_
  show Go _ _ _ _ (T1.setTop (mkF m 4 #[rv sa, rv sb, .val .null, .unset, .unset] []))
  refine go_st (fun t k => XS.aloadN X1.here hx rfl (hb hby d25_4) rfl rfl k) ?_
  show Go _ _ _ _ (T1.setTop (mkF m 5 #[rv sa, rv sb, .val .null, .unset, .unset] [(.ref sb)]))
  obtain ⟨cq2, kq2, q2a, q2b, q2c⟩ := isOf hZ e1 H4
  obtain ⟨_, _, ⟨T2, L2, kk2, nn2⟩, -, X2, ⟨Lc2, hQ2, lq2, yq2, zq2⟩, st2⟩ := X1.virtualBack hx (y := (⟨"java/lang/AbstractStringBuilder", "getValue", "()[B"⟩ : MethodName)) (z := (⟨"java/lang/AbstractStringBuilder", "getValue", "()[B"⟩ : MethodName)) hown (mvT hZ (w209 hw)) (mvT hZ (w210 hw)) (nf_same (y := (⟨"java/lang/AbstractStringBuilder", "getValue", "()[B"⟩ : MethodName)) (y' := (⟨"java/lang/AbstractStringBuilder", "ensureCapacityInternal", "(I)V"⟩ : MethodName)) (a0 := #[]) rfl (mvT hZ (w172 hw)) (notFace_of_selects (args := #[]) (mvT hZ (w174 hw)))) (mvT hZ (w212 hw)) (mvT hZ (w211 hw)) (by decide) (backOf (W := 0) (rm_getv l Z a0 hw [] sb va h0 n0 (Nat.le_trans Z0 (Nat.le_refl _)) H5) hZ (w213 hw) (w141 hw) (by decide) (by decide)) q2a q2c (g := (mkF m 5 #[rv sa, rv sb, .val .null, .unset, .unset] [(.ref sb)])) rfl (by rw [hml]; rfl) (Steps.refl _) (argsL := []) (rest := []) (lenOf pd_11 rfl) rfl (by show 2 * 0 + _ ≤ _; exact Nat.le_of_eq rfl) (hb hby d25_5) (fun _ _ => ⟨rfl, e1, (by decide : 0 + 0 ≤ _), (by decide : 0 + 0 ≤ _)⟩)
  dsimp only [Pt.U, Pt.locs, Pt.cells, Pt.slots] at X2 lq2 yq2 zq2 st2 hQ2
  obtain rfl : kk2 = 0 := yq2
  obtain rfl : nn2 = 0 := zq2
  obtain ⟨h2, e2⟩ : ∃ z, T2.heap = z := ⟨_, rfl⟩
  rw [e2] at hQ2
  obtain ⟨rfl, N2q, he2⟩ := hQ2
  have N2 : Fr n0 L2 := by rw [lq2]; exact Fr.app N0 N2q
  rw [he2] at e2
  refine go_tr st2 ?_
  show Go _ _ _ _ (T2.setTop (mkF m 8 #[rv sa, rv sb, .val .null, .unset, .unset] [(.ref va)]))
  refine go_st (fun t k => XS.astoreN X2.here hx rfl (hb hby d25_8) rfl rfl (l' := #[rv sa, rv sb, .val .null, rv va, .unset]) rfl k) ?_
  show Go _ _ _ _ (T2.setTop (mkF m 9 #[rv sa, rv sb, .val .null, rv va, .unset] []))
  refine go_st (fun t k => XS.aloadN X2.here hx rfl (hb hby d25_9) rfl rfl k) ?_
  show Go _ _ _ _ (T2.setTop (mkF m 10 #[rv sa, rv sb, .val .null, rv va, .unset] [(.ref sb)]))
  obtain ⟨cq3, kq3, q3a, q3b, q3c⟩ := isOf hZ e2 H4
  obtain ⟨_, _, ⟨T3, L3, kk3, nn3⟩, -, X3, ⟨Lc3, hQ3, lq3, yq3, zq3⟩, st3⟩ := X2.virtualBack hx (y := (⟨"java/lang/AbstractStringBuilder", "length", "()I"⟩ : MethodName)) (z := (⟨"java/lang/StringBuilder", "length", "()I"⟩ : MethodName)) hown (mvT hZ (w214 hw)) (mvT hZ (w215 hw)) (nf_same (y := (⟨"java/lang/AbstractStringBuilder", "length", "()I"⟩ : MethodName)) (y' := (⟨"java/lang/AbstractStringBuilder", "ensureCapacityInternal", "(I)V"⟩ : MethodName)) (a0 := #[]) rfl (mvT hZ (w172 hw)) (notFace_of_selects (args := #[]) (mvT hZ (w174 hw)))) (mvT hZ (w217 hw)) (mvT hZ (w218 hw)) (by decide) (backOf (W := 0) (rm_sb_len4 l Z a0 hw [] sb h0 n0 (Nat.le_trans Z0 (Nat.le_refl _)) H4 H7) hZ (w219 hw) (w133 hw) (by decide) (by decide)) q3a q3c (g := (mkF m 10 #[rv sa, rv sb, .val .null, rv va, .unset] [(.ref sb)])) rfl (by rw [hml]; rfl) (Steps.refl _) (argsL := []) (rest := []) (lenOf pd_5 rfl) rfl (by show 2 * 0 + _ ≤ _; exact Nat.le_of_eq rfl) (hb hby d25_10) (fun _ _ => ⟨rfl, e2, (by decide : 0 + 0 ≤ _), (by decide : 0 + 0 ≤ _)⟩)
  dsimp only [Pt.U, Pt.locs, Pt.cells, Pt.slots] at X3 lq3 yq3 zq3 st3 hQ3
  obtain rfl : kk3 = 0 := yq3
  obtain rfl : nn3 = 0 := zq3
  obtain ⟨h3, e3⟩ : ∃ z, T3.heap = z := ⟨_, rfl⟩
  rw [e3] at hQ3
  obtain ⟨rfl, N3q, he3⟩ := hQ3
  have N3 : Fr n0 L3 := by rw [lq3]; exact Fr.app N2 N3q
  rw [he3] at e3
  refine go_tr st3 ?_
  show Go _ _ _ _ (T3.setTop (mkF m 13 #[rv sa, rv sb, .val .null, rv va, .unset] [(.int 4)]))
  refine go_st (fun t k => XS.istore X3.here hx rfl (hb hby d25_13) rfl (l' := #[rv sa, rv sb, .val .null, rv va, iv 4]) rfl k) ?_
  show Go _ _ _ _ (T3.setTop (mkF m 15 #[rv sa, rv sb, .val .null, rv va, iv 4] []))
  refine go_st (fun t k => XS.aloadN X3.here hx rfl (hb hby d25_15) rfl rfl k) ?_
  show Go _ _ _ _ (T3.setTop (mkF m 16 #[rv sa, rv sb, .val .null, rv va, iv 4] [(.ref sb)]))
  obtain ⟨cq4, kq4, q4a, q4b, q4c⟩ := isOf hZ e3 H4
  obtain ⟨_, _, ⟨T4, L4, kk4, nn4⟩, -, X4, ⟨Lc4, hQ4, lq4, yq4, zq4⟩, st4⟩ := X3.virtualBack hx (y := (⟨"java/lang/AbstractStringBuilder", "isLatin1", "()Z"⟩ : MethodName)) (z := (⟨"java/lang/AbstractStringBuilder", "isLatin1", "()Z"⟩ : MethodName)) hown (mvT hZ (w222 hw)) (mvT hZ (w223 hw)) (nf_same (y := (⟨"java/lang/AbstractStringBuilder", "isLatin1", "()Z"⟩ : MethodName)) (y' := (⟨"java/lang/AbstractStringBuilder", "ensureCapacityInternal", "(I)V"⟩ : MethodName)) (a0 := #[]) rfl (mvT hZ (w172 hw)) (notFace_of_selects (args := #[]) (mvT hZ (w174 hw)))) (mvT hZ (w225 hw)) (mvT hZ (w224 hw)) (by decide) (backOf (W := 0) (rm_isl l Z a0 hw [] sb G1 h0 n0 (Nat.le_trans Z0 (Nat.le_refl _)) H6 CS CSn O0) hZ (w226 hw) (w141 hw) (by decide) (by decide)) q4a q4c (g := (mkF m 16 #[rv sa, rv sb, .val .null, rv va, iv 4] [(.ref sb)])) rfl (by rw [hml]; rfl) (Steps.refl _) (argsL := []) (rest := []) (lenOf pd_2 rfl) rfl (by show 2 * 0 + _ ≤ _; exact Nat.le_of_eq rfl) (hb hby d25_16) (fun _ _ => ⟨rfl, e3, (by decide : 0 + 0 ≤ _), (by decide : 0 + 0 ≤ _)⟩)
  dsimp only [Pt.U, Pt.locs, Pt.cells, Pt.slots] at X4 lq4 yq4 zq4 st4 hQ4
  obtain rfl : kk4 = 0 := yq4
  obtain rfl : nn4 = 0 := zq4
  obtain ⟨h4, e4⟩ : ∃ z, T4.heap = z := ⟨_, rfl⟩
  rw [e4] at hQ4
  obtain ⟨rfl, N4q, he4⟩ := hQ4
  have N4 : Fr n0 L4 := by rw [lq4]; exact Fr.app N3 N4q
  rw [he4] at e4
  refine go_tr st4 ?_
  show Go _ _ _ _ (T4.setTop (mkF m 19 #[rv sa, rv sb, .val .null, rv va, iv 4] [(.int 1)]))
  refine go_st (fun t k => XS.ifNo X4.here hx rfl (hb hby d25_19) rfl ((if0 _ _).trans (feq ((by decide) : ¬ ((1 : Int32) = (0 : Int32)))).1) k) ?_
  show Go _ _ _ _ (T4.setTop (mkF m 22 #[rv sa, rv sb, .val .null, rv va, iv 4] []))
  refine go_st (fun t k => XS.aloadN X4.here hx rfl (hb hby d25_22) rfl rfl k) ?_
  show Go _ _ _ _ (T4.setTop (mkF m 23 #[rv sa, rv sb, .val .null, rv va, iv 4] [(.ref sa)]))
  refine go_st (fun t k => XS.iconst X4.here hx rfl (hb hby d25_23) k) ?_
  show Go _ _ _ _ (T4.setTop (mkF m 24 #[rv sa, rv sb, .val .null, rv va, iv 4] [(.int 0), (.ref sa)]))
  obtain ⟨T5, h5, X5, e5, W5, st5⟩ := putFN X4 hx hZ hown (w34 hw) Via.refl e4 H2 H0 (Or.inr ⟨(w35 hw), rfl, hnm⟩) (w10 hw) (ty := .byte) (v' := (.int 0)) (by decide) rfl rfl (g := (mkF m 24 #[rv sa, rv sb, .val .null, rv va, iv 4] [(.int 0), (.ref sa)])) rfl rfl (hb hby d25_24)
  have N5 := Fr.snoc X5 N4 g_sa
  have f6 : Fld Z h5 sa "java/lang/String" "coder" "B" (.int 0) := H2.same W5
  refine go_st (fun t k => st5 t k) ?_
  show Go _ _ _ _ (T5.setTop (mkF m 27 #[rv sa, rv sb, .val .null, rv va, iv 4] []))
  refine go_st (fun t k => XS.aloadN X5.here hx rfl (hb hby d25_27) rfl rfl k) ?_
  show Go _ _ _ _ (T5.setTop (mkF m 28 #[rv sa, rv sb, .val .null, rv va, iv 4] [(.ref sa)]))
  refine go_st (fun t k => XS.aloadN X5.here hx rfl (hb hby d25_28) rfl rfl k) ?_
  show Go _ _ _ _ (T5.setTop (mkF m 29 #[rv sa, rv sb, .val .null, rv va, iv 4] [(.ref va), (.ref sa)]))
  refine go_st (fun t k => XS.iconst X5.here hx rfl (hb hby d25_29) k) ?_
  show Go _ _ _ _ (T5.setTop (mkF m 30 #[rv sa, rv sb, .val .null, rv va, iv 4] [(.int 0), (.ref va), (.ref sa)]))
  refine go_st (fun t k => XS.iload X5.here hx rfl (hb hby d25_30) rfl k) ?_
  show Go _ _ _ _ (T5.setTop (mkF m 32 #[rv sa, rv sb, .val .null, rv va, iv 4] [(.int 4), (.int 0), (.ref va), (.ref sa)]))
  have nq7 : va ≠ sa := Ne.symm (Exa.neArv H0 H8 (w10 hw))
  have f8 : Arv Z h5 va kv .byte (16 : Int32) [(.int u0), (.int u1), (.int u2), (.int u3)] (.int (0 : Int32)) := (H8.other W5 nq7)
  obtain ⟨_, _, ⟨T9, L9, kk9, nn9⟩, -, X9, ⟨Lc9, hQ9, lq9, yq9, zq9⟩, st9⟩ := Jvm.LawKit.callS X5 hx (y := (⟨"java/util/Arrays", "copyOfRange", "([BII)[B"⟩ : MethodName)) hown (mvT hZ (w227 hw)) (mvT hZ (w228 hw)) (mvT hZ (w229 hw)) (mvT hZ (w230 hw)) (by decide) (backOf (W := 1) (rm_cr4 l Z a0 hw [] va kv u0 u1 u2 u3 h5 n0 (Nat.le_trans Z0 (Nat.le_of_eq W5.size.symm)) f8) hZ (w230 hw) (w229 hw) (by decide) (by decide)) (g := (mkF m 32 #[rv sa, rv sb, .val .null, rv va, iv 4] [(.int 4), (.int 0), (.ref va), (.ref sa)])) rfl (by rw [hml]; rfl) (argsL := [(.ref va), (.int 0), (.int 4)]) (rest := [(.ref sa)]) (lenOf pd_14 rfl) rfl (by show 2 * 0 + _ ≤ _; exact Nat.le_of_eq rfl) (hb hby d25_32) (fun _ _ => ⟨rfl, e5, (by decide : 0 + 1 ≤ _), (by decide : 0 + 4 ≤ _)⟩)
  dsimp only [Pt.U, Pt.locs, Pt.cells, Pt.slots] at X9 lq9 yq9 zq9 st9 hQ9
  obtain rfl : kk9 = 1 := yq9
  obtain rfl : nn9 = 4 := zq9
  obtain ⟨h9, e9⟩ : ∃ z, T9.heap = z := ⟨_, rfl⟩
  rw [e9] at hQ9
  obtain ⟨ta_9, kt_9, rfl, N9q, K9, gf9_0, lf9_0, p9_1⟩ := hQ9
  have N9 : Fr n0 L9 := by rw [lq9]; exact Fr.app N5 N9q
  refine go_st st9 ?_
  show Go _ _ _ _ (T9.setTop (mkF m 35 #[rv sa, rv sb, .val .null, rv va, iv 4] [(.ref ta_9), (.ref sa)]))
  have f10 : Fld Z h9 sa "java/lang/String" "value" "[B" .null := ((H1.other W5 (Or.inr (slot_ne (Or.inr (w37 hw)) (Or.inr (w35 hw)) (by decide) (t := (.array .byte)) (t' := .byte) (by decide) (by decide)))).keep K9 nin0)
  have f11 : Exa Z h9 sa "java/lang/String" := ((H0.wr W5).keep K9)
  obtain ⟨T12, h12, X12, e12, W12, st12⟩ := putF X9 hx hZ hown (host := "") (Or.inl (w36 hw)) Via.refl e9 f10 f11 (Or.inr ⟨(w37 hw), rfl, hnm⟩) (w10 hw) (ty := (.array .byte)) (by decide) rfl rfl (g := (mkF m 35 #[rv sa, rv sb, .val .null, rv va, iv 4] [(.ref ta_9), (.ref sa)])) rfl rfl (hb hby d25_35)
  have N12 := Fr.snoc X12 N9 g_sa
  have f13 : Fld Z h12 sa "java/lang/String" "value" "[B" (.ref ta_9) := f10.same W12
  refine go_st (fun t k => st12 t k) ?_
  show Go _ _ _ _ (T12.setTop (mkF m 38 #[rv sa, rv sb, .val .null, rv va, iv 4] []))
  refine go_st (fun t k => XS.goto X12.here hx rfl (pc0 := 38) (pc' := 97) rfl (hb hby d25_38) (by decide) (by decide) k) ?_
  show Go _ _ _ _ (T12.setTop (mkF m 97 #[rv sa, rv sb, .val .null, rv va, iv 4] []))
  have f14 : Exa Z h12 sa "java/lang/String" := (f11.wr W12)
  have f15 : Fld Z h12 sa "java/lang/String" "coder" "B" (.int 0) := ((f6.keep K9 nin0).other W12 (Or.inr (slot_ne (Or.inr (w35 hw)) (Or.inr (w37 hw)) (by decide) (t := .byte) (t' := (.array .byte)) (by decide) (by decide))))
  have nq16 : sa ≠ ta_9 := Nat.ne_of_lt (Nat.lt_of_lt_of_le (Nat.lt_of_lt_of_le H0.lt (Nat.le_of_eq W5.size.symm)) lf9_0)
  have f17 : Arv Z h12 ta_9 kt_9 .byte (4 : Int32) [(.int u0), (.int u1), (.int u2), (.int u3)] (.int (0 : Int32)) := (p9_1.other W12 (Ne.symm nq16))
  have ke18 : Keep h0 h5 [sa] := (Keep.wr (Keep.refl h0 [sa]) W5 (Or.inl (List.mem_of_getElem? (i := 0) rfl)))
  have ke19 : Keep h0 h9 [sa] := (Keep.trans ke18 K9 all0)
  have ke20 : Keep h0 h12 [sa] := (Keep.wr ke19 W12 (Or.inl (List.mem_of_getElem? (i := 0) rfl)))
  obtain ⟨fs, hr, hrun, hended, hW, hsame⟩ := X12.leave (v := none) (fun _ => rfl)
  refine ⟨_, _, ?_, hrun, hended, _, _, rfl, ?_, ⟨_, rfl⟩, hW, hsame.mono (by decide) (by decide)⟩
  · exact X12.returnOut hx Bd.returns (hb hby d25_97) hr
  · show Q_strasb4 _ _ _ _ _ _ _ _ _ _ _ _ _ T12.heap _
    rw [e12]
    exact ⟨ta_9, kt_9, rfl, N12, ke20, gf9_0, (Nat.le_trans (Nat.le_of_eq W5.size.symm) lf9_0), f14, f13, f15, f17⟩
def Q_strsb4 (Z : State) (sa : Addr) (sb : Addr) (va : Addr) (kv : ClassId) (u0 : Int32) (u1 : Int32) (u2 : Int32) (u3 : Int32) (G1 : Int32) (h0 : Heap) (n0 : Nat) (vR : Option Value) (h : Heap) (L : List Loc) : Prop := ∃ (ta : Addr) (kt : ClassId), vR = none ∧ Fr n0 L ∧ Keep h0 h [sa] ∧ n0 ≤ ta ∧ h0.size ≤ ta ∧ (Exa Z h sa "java/lang/String") ∧ (Fld Z h sa "java/lang/String" "value" "[B" (.ref ta)) ∧ (Fld Z h sa "java/lang/String" "coder" "B" (.int 0)) ∧ (Arv Z h ta kt .byte (4 : Int32) [(.int u0), (.int u1), (.int u2), (.int u3)] (.int (0 : Int32)))
theorem ef_strsb4 (m : MethodId) (x0 : Addr) (x1 : Addr) : entryFrame m #[(.ref x0), (.ref x1)] 2 = mkF m 0 #[.val (.ref x0), .val (.ref x1)] [] := by first | (simp [entryFrame, mkF, argsToLocals, Value.category]; done) | rfl
set_option maxRecDepth 65536 in
set_option maxHeartbeats 40000000 in
theorem rm_strsb4 (l : Launch) (Z : State) (a0 : Array Value) (hw : ∀ d ∈ tables_1, d.before a0 Z = true) (ws : List Jvm.Cond) (sa : Addr) (sb : Addr) (va : Addr) (kv : ClassId) (u0 : Int32) (u1 : Int32) (u2 : Int32) (u3 : Int32) (G1 : Int32) (h0 : Heap) (n0 : Nat) (Z0 : n0 ≤ h0.size) (H0 : Exa Z h0 sa "java/lang/String") (H1 : Fld Z h0 sa "java/lang/String" "value" "[B" .null) (H2 : Fld Z h0 sa "java/lang/String" "coder" "B" (.int 0)) (g_sa : n0 ≤ sa) (H4 : Exa Z h0 sb "java/lang/StringBuilder") (H5 : Fld Z h0 sb "java/lang/AbstractStringBuilder" "value" "[B" (.ref va)) (H6 : Fld Z h0 sb "java/lang/AbstractStringBuilder" "coder" "B" (.int 0)) (H7 : Fld Z h0 sb "java/lang/AbstractStringBuilder" "count" "I" (.int 4)) (H8 : Arv Z h0 va kv .byte (16 : Int32) [(.int u0), (.int u1), (.int u2), (.int u3)] (.int (0 : Int32))) (CS : Sta Z Z.heap "java/lang/String" "COMPACT_STRINGS" "Z" (.int G1)) (CSn : ¬ (G1 = (0 : Int32))) (O0 : Old Z n0 h0) :
    MetFree l (⟨"java/lang/String", "<init>", "(Ljava/lang/StringBuilder;)V"⟩ : MethodName) (head1 (Jvm.Cond.code (⟨"java/lang/String", "<init>", "(Ljava/lang/StringBuilder;)V"⟩ : MethodName) jdk_42_method_53_code 2 none :: ws) ({ frames := 4, cells := 1, slots := 4, locals := 65 } : Room)) (fun a U => a = #[(.ref sa), (.ref sb)] ∧ Z.Warmed39 U.vm ∧ U.heap = h0) (fun _ _ _ _ _ => True) (fun _ U o U' => ∃ v L, o = .returned v ∧ Q_strsb4 Z sa sb va kv u0 u1 u2 u3 G1 h0 n0 v U'.heap L ∧ FrameEnd U o U' L ({ frames := 4, cells := 1, slots := 4, locals := 65 } : Room).cells ({ frames := 4, cells := 1, slots := 4, locals := 65 } : Room).slots) := by
  refine MetFree.of_bodySF (plainFor_of_name pn_java_lang_String) hisR ?_
  intro p e s m args below meth c s₁ Bd hml0 hP hK
  obtain ⟨rfl, hZ, hh⟩ := hP
  have hx := Bd.exec
  have hby := Bd.bytes
  have hml : c.maxLocals = 2 := hml0
  have hown : s.vm.findClass "java/lang/String" = some m.cls := findClass_of_methodNamed Bd.named
  have hnm := (name_of_methodNamed Bd.named Bd.method).1
  have X0 : Stand p l e ({ frames := 4, cells := 1, slots := 4, locals := 65 } : Room) s m #[(.ref sa), (.ref sb)] below meth c s₁ [] 0 0 := Stand.of_body Bd
  have e0 : s₁.heap = h0 := by rw [← hh, Bd.state]; rfl
  have N0 := Fr.nil n0
  refine go_st (fun t k => castTop (ef_strsb4 m sa sb) k) ?_
  show Go _ _ _ _ (s₁.setTop (mkF m 0 #[rv sa, rv sb] []))
  refine go_st (fun t k => XS.aloadN X0.here hx rfl (hb hby d24_0) rfl rfl k) ?_
  show Go _ _ _ _ (s₁.setTop (mkF m 1 #[rv sa, rv sb] [(.ref sa)]))
  refine go_st (fun t k => XS.aloadN X0.here hx rfl (hb hby d24_1) rfl rfl k) ?_
  show Go _ _ _ _ (s₁.setTop (mkF m 2 #[rv sa, rv sb] [(.ref sb), (.ref sa)]))
  refine go_st (fun t k => XS.aconstNull X0.here hx rfl (hb hby d24_2) k) ?_
  show Go _ _ _ _ (s₁.setTop (mkF m 3 #[rv sa, rv sb] [.null, (.ref sb), (.ref sa)]))
  obtain ⟨_, _, ⟨T1, L1, kk1, nn1⟩, -, X1, ⟨Lc1, hQ1, lq1, yq1, zq1⟩, st1⟩ := X0.specialBack hx (y := (⟨"java/lang/String", "<init>", "(Ljava/lang/AbstractStringBuilder;Ljava/lang/Void;)V"⟩ : MethodName)) rfl hown (mvT hZ (w206 hw)) (mvT hZ (w207 hw)) (mvT hZ (w208 hw)) (by decide) (backOf (W := 0) (rm_strasb4 l Z a0 hw [] sa sb va kv u0 u1 u2 u3 G1 h0 n0 (Nat.le_trans Z0 (Nat.le_refl _)) H0 H1 H2 g_sa H4 H5 H6 H7 H8 CS CSn O0) hZ (w208 hw) (w11 hw) (by decide) (by decide)) (g := (mkF m 3 #[rv sa, rv sb] [.null, (.ref sb), (.ref sa)])) rfl (by rw [hml]; rfl) (Steps.refl _) (a := sa) (argsL := [(.ref sb), .null]) (rest := []) (lenOf pd_15 rfl) rfl (by show 2 * 0 + _ ≤ _; exact Nat.le_of_eq rfl) (hb hby d24_3) (fun _ _ => ⟨rfl, e0, (by decide : 0 + 1 ≤ _), (by decide : 0 + 4 ≤ _)⟩)
  dsimp only [Pt.U, Pt.locs, Pt.cells, Pt.slots] at X1 lq1 yq1 zq1 st1 hQ1
  obtain rfl : kk1 = 1 := yq1
  obtain rfl : nn1 = 4 := zq1
  obtain ⟨h1, e1⟩ : ∃ z, T1.heap = z := ⟨_, rfl⟩
  rw [e1] at hQ1
  obtain ⟨ta_1, kt_1, rfl, N1q, K1, gf1_0, lf1_0, p1_1, p1_2, p1_3, p1_4⟩ := hQ1
  have N1 : Fr n0 L1 := by rw [lq1]; exact Fr.app N0 N1q
  refine go_tr st1 ?_
  show Go _ _ _ _ (T1.setTop (mkF m 6 #[rv sa, rv sb] []))
  have ke2 : Keep h0 h1 [sa] := (Keep.trans (Keep.refl h0 [sa]) K1 (allS (Or.inl (List.mem_of_getElem? (i := 0) rfl)) all0))
  obtain ⟨fs, hr, hrun, hended, hW, hsame⟩ := X1.leave (v := none) (fun _ => rfl)
  refine ⟨_, _, ?_, hrun, hended, _, _, rfl, ?_, ⟨_, rfl⟩, hW, hsame.mono (by decide) (by decide)⟩
  · exact X1.returnOut hx Bd.returns (hb hby d24_6) hr
  · show Q_strsb4 _ _ _ _ _ _ _ _ _ _ _ _ _ T1.heap _
    rw [e1]
    exact ⟨ta_1, kt_1, rfl, N1, ke2, gf1_0, lf1_0, p1_1, p1_2, p1_3, p1_4⟩
def Q_tos4 (Z : State) (sb : Addr) (va : Addr) (kv : ClassId) (u0 : Int32) (u1 : Int32) (u2 : Int32) (u3 : Int32) (G1 : Int32) (h0 : Heap) (n0 : Nat) (vR : Option Value) (h : Heap) (L : List Loc) : Prop := ∃ (sa : Addr) (ta : Addr) (kt : ClassId), vR = some (.ref sa) ∧ Fr n0 L ∧ Keep h0 h [] ∧ n0 ≤ sa ∧ h0.size ≤ sa ∧ n0 ≤ ta ∧ h0.size ≤ ta ∧ (Exa Z h sa "java/lang/String") ∧ (Fld Z h sa "java/lang/String" "value" "[B" (.ref ta)) ∧ (Fld Z h sa "java/lang/String" "coder" "B" (.int 0)) ∧ (Arv Z h ta kt .byte (4 : Int32) [(.int u0), (.int u1), (.int u2), (.int u3)] (.int (0 : Int32)))
theorem ef_tos4 (m : MethodId) (x0 : Addr) : entryFrame m #[(.ref x0)] 1 = mkF m 0 #[.val (.ref x0)] [] := by first | (simp [entryFrame, mkF, argsToLocals, Value.category]; done) | rfl
set_option maxRecDepth 65536 in
set_option maxHeartbeats 40000000 in
theorem rm_tos4 (l : Launch) (Z : State) (a0 : Array Value) (hw : ∀ d ∈ tables_1, d.before a0 Z = true) (ws : List Jvm.Cond) (sb : Addr) (va : Addr) (kv : ClassId) (u0 : Int32) (u1 : Int32) (u2 : Int32) (u3 : Int32) (G1 : Int32) (h0 : Heap) (n0 : Nat) (Z0 : n0 ≤ h0.size) (H0 : Exa Z h0 sb "java/lang/StringBuilder") (H1 : Fld Z h0 sb "java/lang/AbstractStringBuilder" "value" "[B" (.ref va)) (H2 : Fld Z h0 sb "java/lang/AbstractStringBuilder" "coder" "B" (.int 0)) (H3 : Fld Z h0 sb "java/lang/AbstractStringBuilder" "count" "I" (.int 4)) (H4 : Arv Z h0 va kv .byte (16 : Int32) [(.int u0), (.int u1), (.int u2), (.int u3)] (.int (0 : Int32))) (CS : Sta Z Z.heap "java/lang/String" "COMPACT_STRINGS" "Z" (.int G1)) (CSn : ¬ (G1 = (0 : Int32))) (O0 : Old Z n0 h0) :
    MetFree l (⟨"java/lang/StringBuilder", "toString", "()Ljava/lang/String;"⟩ : MethodName) (head1 (Jvm.Cond.code (⟨"java/lang/StringBuilder", "toString", "()Ljava/lang/String;"⟩ : MethodName) jdk_67_method_42_code 1 (some (.object "java/lang/String")) :: ws) ({ frames := 5, cells := 2, slots := 8, locals := 79 } : Room)) (fun a U => a = #[(.ref sb)] ∧ Z.Warmed39 U.vm ∧ U.heap = h0) (fun _ _ _ _ _ => True) (fun _ U o U' => ∃ v L, o = .returned v ∧ Q_tos4 Z sb va kv u0 u1 u2 u3 G1 h0 n0 v U'.heap L ∧ FrameEnd U o U' L ({ frames := 5, cells := 2, slots := 8, locals := 79 } : Room).cells ({ frames := 5, cells := 2, slots := 8, locals := 79 } : Room).slots) := by
  refine MetFree.of_bodySF (plainFor_of_name pn_java_lang_StringBuilder) hisR ?_
  intro p e s m args below meth c s₁ Bd hml0 hP hK
  obtain ⟨rfl, hZ, hh⟩ := hP
  have hx := Bd.exec
  have hby := Bd.bytes
  have hml : c.maxLocals = 1 := hml0
  have hown : s.vm.findClass "java/lang/StringBuilder" = some m.cls := findClass_of_methodNamed Bd.named
  have hnm := (name_of_methodNamed Bd.named Bd.method).1
  have X0 : Stand p l e ({ frames := 5, cells := 2, slots := 8, locals := 79 } : Room) s m #[(.ref sb)] below meth c s₁ [] 0 0 := Stand.of_body Bd
  have e0 : s₁.heap = h0 := by rw [← hh, Bd.state]; rfl
  have N0 := Fr.nil n0
  refine go_st (fun t k => castTop (ef_tos4 m sb) k) ?_
  show Go _ _ _ _ (s₁.setTop (mkF m 0 #[rv sb] []))
  obtain ⟨T1, h1, X1, e1, E1, A1, D1, -, st1⟩ := newO X0 hx hZ hown (w202 hw) (w10 hw) (w11 hw) e0 (g := (mkF m 0 #[rv sb] [])) rfl (hb hby d23_0) (by decide) (by decide)
  obtain ⟨b1, gq1⟩ : ∃ z, z = h0.size := ⟨_, rfl⟩
  rw [← gq1] at A1 D1 st1
  have f2 : Fld Z h1 b1 "java/lang/String" "coder" "B" (.int 0) := D1 (Or.inr (w35 hw)) (ty := .byte) (by decide)
  have f3 : Fld Z h1 b1 "java/lang/String" "value" "[B" .null := D1 (Or.inr (w37 hw)) (ty := (.array .byte)) (by decide)
  refine go_st (fun t k => st1 t k) ?_
  show Go _ _ _ _ (T1.setTop (mkF m 3 #[rv sb] [(.ref b1)]))
  refine go_st (fun t k => XS.dup X1.here hx rfl (hb hby d23_3) rfl rfl k) ?_
  show Go _ _ _ _ (T1.setTop (mkF m 4 #[rv sb] [(.ref b1), (.ref b1)]))
  refine go_st (fun t k => XS.aloadN X1.here hx rfl (hb hby d23_4) rfl rfl k) ?_
  show Go _ _ _ _ (T1.setTop (mkF m 5 #[rv sb] [(.ref sb), (.ref b1), (.ref b1)]))
  have g_b1 : n0 ≤ b1 := Nat.le_trans (Nat.le_trans Z0 (Nat.le_refl _)) (Nat.le_of_eq gq1.symm)
  have f4 : Exa Z h1 sb "java/lang/StringBuilder" := (H0.ext E1)
  have f5 : Fld Z h1 sb "java/lang/AbstractStringBuilder" "value" "[B" (.ref va) := (H1.ext E1)
  have f6 : Fld Z h1 sb "java/lang/AbstractStringBuilder" "coder" "B" (.int 0) := (H2.ext E1)
  have f7 : Fld Z h1 sb "java/lang/AbstractStringBuilder" "count" "I" (.int 4) := (H3.ext E1)
  have f8 : Arv Z h1 va kv .byte (16 : Int32) [(.int u0), (.int u1), (.int u2), (.int u3)] (.int (0 : Int32)) := (H4.ext E1)
  have oe9 : Old Z n0 h1 := (Old.ext O0 E1)
  obtain ⟨_, _, ⟨T10, L10, kk10, nn10⟩, -, X10, ⟨Lc10, hQ10, lq10, yq10, zq10⟩, st10⟩ := X1.specialBack hx (y := (⟨"java/lang/String", "<init>", "(Ljava/lang/StringBuilder;)V"⟩ : MethodName)) rfl hown (mvT hZ (w203 hw)) (mvT hZ (w204 hw)) (mvT hZ (w205 hw)) (by decide) (backOf (W := 1) (rm_strsb4 l Z a0 hw [] b1 sb va kv u0 u1 u2 u3 G1 h1 n0 (Nat.le_trans Z0 E1.1) A1 f3 f2 g_b1 f4 f5 f6 f7 f8 CS CSn oe9) hZ (w205 hw) (w11 hw) (by decide) (by decide)) (g := (mkF m 5 #[rv sb] [(.ref sb), (.ref b1), (.ref b1)])) rfl (by rw [hml]; rfl) (Steps.refl _) (a := b1) (argsL := [(.ref sb)]) (rest := [(.ref b1)]) (lenOf pd_16 rfl) rfl (by show 2 * 0 + _ ≤ _; exact Nat.le_of_eq rfl) (hb hby d23_5) (fun _ _ => ⟨rfl, e1, (by decide : 1 + 1 ≤ _), (by decide : 4 + 4 ≤ _)⟩)
  dsimp only [Pt.U, Pt.locs, Pt.cells, Pt.slots] at X10 lq10 yq10 zq10 st10 hQ10
  obtain rfl : kk10 = 2 := yq10
  obtain rfl : nn10 = 8 := zq10
  obtain ⟨h10, e10⟩ : ∃ z, T10.heap = z := ⟨_, rfl⟩
  rw [e10] at hQ10
  obtain ⟨ta_10, kt_10, rfl, N10q, K10, gf10_0, lf10_0, p10_1, p10_2, p10_3, p10_4⟩ := hQ10
  have N10 : Fr n0 L10 := by rw [lq10]; exact Fr.app N0 N10q
  refine go_tr st10 ?_
  show Go _ _ _ _ (T10.setTop (mkF m 8 #[rv sb] [(.ref b1)]))
  have ke11 : Keep h0 h1 [] := (Keep.ext (Keep.refl h0 []) E1)
  have ke12 : Keep h0 h10 [] := (Keep.trans ke11 K10 (allS (Or.inr (Nat.le_of_eq gq1.symm)) all0))
  obtain ⟨fs, hr, hrun, hended, hW, hsame⟩ := X10.leave (v := some (.ref b1)) (fun h => by rw [Bd.returns] at h; cases h)
  refine ⟨_, _, ?_, hrun, hended, _, _, rfl, ?_, ⟨_, rfl⟩, hW, hsame.mono (by decide) (by decide)⟩
  · exact retOut X10 hx Bd.returns rfl (Or.inr (Or.inr (Or.inr (Or.inr ⟨rfl, rfl, rfl⟩)))) (hb hby d23_8) hr
  · show Q_tos4 _ _ _ _ _ _ _ _ _ _ _ _ T10.heap _
    rw [e10]
    exact ⟨b1, ta_10, kt_10, rfl, N10, ke12, g_b1, (Nat.le_of_eq gq1.symm), gf10_0, (Nat.le_trans E1.1 lf10_0), p10_1, p10_2, p10_3, p10_4⟩
def Q_shown1 (Z : State) (oo : Addr) (ns : Addr) (nt : Addr) (kn : ClassId) (ls : Addr) (lt : Addr) (kl : ClassId) (n0_ : Int32) (n1_ : Int32) (l0_ : Int32) (G1 : Int32) (h0 : Heap) (n0 : Nat) (vR : Option Value) (h : Heap) (L : List Loc) : Prop := ∃ (sa : Addr) (ta : Addr) (kt : ClassId), vR = some (.ref sa) ∧ Fr n0 L ∧ Keep h0 h [] ∧ n0 ≤ sa ∧ h0.size ≤ sa ∧ n0 ≤ ta ∧ h0.size ≤ ta ∧ (Exa Z h sa "java/lang/String") ∧ (Fld Z h sa "java/lang/String" "value" "[B" (.ref ta)) ∧ (Fld Z h sa "java/lang/String" "coder" "B" (.int 0)) ∧ (Arv Z h ta kt .byte (4 : Int32) [(.int n0_), (.int n1_), (.int 32), (.int l0_)] (.int (0 : Int32)))
theorem ef_shown1 (m : MethodId) (x0 : Addr) : entryFrame m #[(.ref x0)] 1 = mkF m 0 #[.val (.ref x0)] [] := by first | (simp [entryFrame, mkF, argsToLocals, Value.category]; done) | rfl
set_option maxRecDepth 65536 in
set_option maxHeartbeats 40000000 in
theorem rm_shown1 (l : Launch) (Z : State) (a0 : Array Value) (hw : ∀ d ∈ tables_1, d.before a0 Z = true) (ws : List Jvm.Cond) (oo : Addr) (ns : Addr) (nt : Addr) (kn : ClassId) (ls : Addr) (lt : Addr) (kl : ClassId) (n0_ : Int32) (n1_ : Int32) (l0_ : Int32) (G1 : Int32) (h0 : Heap) (n0 : Nat) (Z0 : n0 ≤ h0.size) (H0 : Exa Z h0 oo "com/example/tuplet/tuplet/Commands$Option") (H1 : Fld Z h0 oo "com/example/tuplet/tuplet/Commands$Option" "name" "Ljava/lang/String;" (.ref ns)) (H2 : Fld Z h0 oo "com/example/tuplet/tuplet/Commands$Option" "label" "Ljava/lang/String;" (.ref ls)) (H3 : Exa Z h0 ls "java/lang/String") (H4 : Fld Z h0 ls "java/lang/String" "value" "[B" (.ref lt)) (H5 : Fld Z h0 ls "java/lang/String" "coder" "B" (.int 0)) (H6 : Arv Z h0 lt kl .byte (1 : Int32) [(.int l0_)] (.int (0 : Int32))) (H7 : Exa Z h0 ns "java/lang/String") (H8 : Fld Z h0 ns "java/lang/String" "value" "[B" (.ref nt)) (H9 : Fld Z h0 ns "java/lang/String" "coder" "B" (.int 0)) (H10 : Arv Z h0 nt kn .byte (2 : Int32) [(.int n0_), (.int n1_)] (.int (0 : Int32))) (CS : Sta Z Z.heap "java/lang/String" "COMPACT_STRINGS" "Z" (.int G1)) (CSn : ¬ (G1 = (0 : Int32))) (O0 : Old Z n0 h0) :
    MetFree l (⟨"com/example/tuplet/tuplet/Commands$Option", "shown", "()Ljava/lang/String;"⟩ : MethodName) (head1 (Jvm.Cond.code (⟨"com/example/tuplet/tuplet/Commands$Option", "shown", "()Ljava/lang/String;"⟩ : MethodName) prog_6_method_6_code 1 (some (.object "java/lang/String")) :: ws) ({ frames := 6, cells := 6, slots := 36, locals := 91 } : Room)) (fun a U => a = #[(.ref oo)] ∧ Z.Warmed39 U.vm ∧ U.heap = h0 ∧ CHv Z consts_1 U.vm h0) (fun _ _ _ _ _ => True) (fun _ U o U' => ∃ v L, o = .returned v ∧ Q_shown1 Z oo ns nt kn ls lt kl n0_ n1_ l0_ G1 h0 n0 v U'.heap L ∧ CHr Z consts_1 U.vm U.heap U'.vm U'.heap ∧ ReturnedEndW U o U' L ({ frames := 6, cells := 6, slots := 36, locals := 91 } : Room).cells ({ frames := 6, cells := 6, slots := 36, locals := 91 } : Room).slots) := by
  refine MetFree.of_bodySF (plainFor_of_name pn_com_example_tuplet_tuplet_Commands_Option) hisR ?_
  intro p e s m args below meth c s₁ Bd hml0 hP hK
  obtain ⟨rfl, hZs, hh, HC0⟩ := hP
  have hx := Bd.exec
  have hby := Bd.bytes
  have hml : c.maxLocals = 1 := hml0
  have hZ : Z.Warmed39 (s.setVm s.vm).vm := hZs
  have hown : (s.setVm s.vm).vm.findClass "com/example/tuplet/tuplet/Commands$Option" = some m.cls := findClass_of_methodNamed Bd.named
  have hnm := (name_of_methodNamed Bd.named Bd.method).1
  have X0 : Stand p l e ({ frames := 6, cells := 6, slots := 36, locals := 91 } : Room) (s.setVm s.vm) m #[(.ref oo)] below meth c s₁ [] 0 0 := Stand.of_body Bd
  have e0 : s₁.heap = h0 := by rw [← hh, Bd.state]; rfl
  have N0 := Fr.nil n0
  have hS0 : s.Since s.vm s.heap.size := (State.WarmedH.refl s).since _
  have hk0 : s.heap.size ≤ h0.size := Nat.le_of_eq (congrArg Array.size hh)
  have C0 : CHr Z consts_1 s.vm h0 s.vm h0 := CHr.refl HC0
  refine go_st (fun t k => castTop (ef_shown1 m oo) k) ?_
  show Go _ _ _ _ (s₁.setTop (mkF m 0 #[rv oo] []))
  refine go_st (fun t k => XS.aloadN X0.here hx rfl (hb hby d11_0) rfl rfl k) ?_
  show Go _ _ _ _ (s₁.setTop (mkF m 1 #[rv oo] [(.ref oo)]))
  obtain ⟨T1, X1, e1, st1⟩ := getF X0 hx hZ hown (host := "") (Or.inl (w60 hw)) Via.refl e0 H2 (g := (mkF m 1 #[rv oo] [(.ref oo)])) rfl rfl (hb hby d11_1)
  refine go_st (fun t k => st1 t k) ?_
  show Go _ _ _ _ (T1.setTop (mkF m 4 #[rv oo] [(.ref ls)]))
  obtain ⟨cq2, kq2, q2a, q2b, q2c⟩ := isOf hZ e1 H3
  obtain ⟨_, _, ⟨T2, L2, kk2, nn2⟩, -, X2, ⟨Lc2, hQ2, lq2, yq2, zq2⟩, st2⟩ := X1.virtualBack hx (y := (⟨"java/lang/String", "isEmpty", "()Z"⟩ : MethodName)) (z := (⟨"java/lang/String", "isEmpty", "()Z"⟩ : MethodName)) hown (mvT hZ (w108 hw)) (mvT hZ (w109 hw)) (nf_same (y := (⟨"java/lang/String", "isEmpty", "()Z"⟩ : MethodName)) (y' := (⟨"java/lang/String", "equals", "(Ljava/lang/Object;)Z"⟩ : MethodName)) (a0 := #[]) rfl (mvT hZ (w75 hw)) (notFace_of_selects (args := #[]) (mvT hZ (w76 hw)))) (mvT hZ (w111 hw)) (mvT hZ (w110 hw)) (by decide) (backOf (W := 0) (rm_sisEmpty1 l Z a0 hw [] ls lt kl l0_ G1 h0 n0 (Nat.le_trans Z0 (Nat.le_refl _)) H3 H4 H5 H6 CS CSn O0) hZ (w112 hw) (w11 hw) (by decide) (by decide)) q2a q2c (g := (mkF m 4 #[rv oo] [(.ref ls)])) rfl (by rw [hml]; rfl) (Steps.refl _) (argsL := []) (rest := []) (lenOf pd_2 rfl) rfl (by show 2 * 0 + _ ≤ _; exact Nat.le_of_eq rfl) (hb hby d11_4) (fun _ _ => ⟨rfl, e1, (by decide : 0 + 0 ≤ _), (by decide : 0 + 0 ≤ _)⟩)
  dsimp only [Pt.U, Pt.locs, Pt.cells, Pt.slots] at X2 lq2 yq2 zq2 st2 hQ2
  obtain rfl : kk2 = 0 := yq2
  obtain rfl : nn2 = 0 := zq2
  obtain ⟨h2, e2⟩ : ∃ z, T2.heap = z := ⟨_, rfl⟩
  rw [e2] at hQ2
  obtain ⟨rfl, N2q, he2⟩ := hQ2
  have N2 : Fr n0 L2 := by rw [lq2]; exact Fr.app N0 N2q
  rw [he2] at e2
  refine go_tr st2 ?_
  show Go _ _ _ _ (T2.setTop (mkF m 7 #[rv oo] [(.int 0)]))
  refine go_st (fun t k => XS.ifYes X2.here hx rfl (pc0 := 7) (pc' := 17) rfl (hb hby d11_7) rfl ((if0 _ _).trans (teq ((by decide) : (0 : Int32) = (0 : Int32))).1) (by decide) (by decide) k) ?_
  show Go _ _ _ _ (T2.setTop (mkF m 17 #[rv oo] []))
  obtain ⟨T3, h3, X3, e3, E3, A3, D3, -, st3⟩ := newO X2 hx hZ hown (w131 hw) (w132 hw) (w133 hw) e2 (g := (mkF m 17 #[rv oo] [])) rfl (hb hby d11_17) (by decide) (by decide)
  obtain ⟨b3, gq3⟩ : ∃ z, z = h0.size := ⟨_, rfl⟩
  rw [← gq3] at A3 D3 st3
  have C4 : CHr Z consts_1 s.vm h0 s.vm h3 := CHr.trans C0 (CHr.ext E3 C0.1)
  have f5 : Fld Z h3 b3 "java/lang/AbstractStringBuilder" "value" "[B" .null := D3 (Or.inl (w146 hw)) (ty := (.array .byte)) (by decide)
  have f6 : Fld Z h3 b3 "java/lang/AbstractStringBuilder" "coder" "B" (.int 0) := D3 (Or.inl (w148 hw)) (ty := .byte) (by decide)
  have f7 : Fld Z h3 b3 "java/lang/AbstractStringBuilder" "count" "I" (.int 0) := D3 (Or.inl (w170 hw)) (ty := .int) (by decide)
  refine go_st (fun t k => st3 t k) ?_
  show Go _ _ _ _ (T3.setTop (mkF m 20 #[rv oo] [(.ref b3)]))
  refine go_st (fun t k => XS.dup X3.here hx rfl (hb hby d11_20) rfl rfl k) ?_
  show Go _ _ _ _ (T3.setTop (mkF m 21 #[rv oo] [(.ref b3), (.ref b3)]))
  have g_b3 : n0 ≤ b3 := Nat.le_trans (Nat.le_trans Z0 (Nat.le_refl _)) (Nat.le_of_eq gq3.symm)
  have oe8 : Old Z n0 h3 := (Old.ext O0 E3)
  obtain ⟨_, _, ⟨T9, L9, kk9, nn9⟩, -, X9, ⟨Lc9, hQ9, lq9, yq9, zq9⟩, st9⟩ := X3.specialBack hx (y := (⟨"java/lang/StringBuilder", "<init>", "()V"⟩ : MethodName)) rfl hown (mvT hZ (w134 hw)) (mvT hZ (w135 hw)) (mvT hZ (w136 hw)) (by decide) (backOf (W := 1) (rm_sbinit l Z a0 hw [] b3 G1 h3 n0 (Nat.le_trans Z0 E3.1) A3 f5 f6 f7 g_b3 CS CSn oe8) hZ (w136 hw) (w133 hw) (by decide) (by decide)) (g := (mkF m 21 #[rv oo] [(.ref b3), (.ref b3)])) rfl (by rw [hml]; rfl) (Steps.refl _) (a := b3) (argsL := []) (rest := [(.ref b3)]) (lenOf pd_0 rfl) rfl (by show 2 * 0 + _ ≤ _; exact Nat.le_of_eq rfl) (hb hby d11_21) (fun _ _ => ⟨rfl, e3, (by decide : 1 + 1 ≤ _), (by decide : 4 + 16 ≤ _)⟩)
  dsimp only [Pt.U, Pt.locs, Pt.cells, Pt.slots] at X9 lq9 yq9 zq9 st9 hQ9
  obtain rfl : kk9 = 2 := yq9
  obtain rfl : nn9 = 20 := zq9
  obtain ⟨h9, e9⟩ : ∃ z, T9.heap = z := ⟨_, rfl⟩
  rw [e9] at hQ9
  obtain ⟨va_9, kv_9, rfl, N9q, K9, gf9_0, lf9_0, p9_1, p9_2, p9_3, p9_4, p9_5⟩ := hQ9
  have N9 : Fr n0 L9 := by rw [lq9]; exact Fr.app N2 N9q
  have C10 : CHr Z consts_1 s.vm h0 s.vm h9 := CHr.trans C4 (CHr.keep K9 (sfS (Safe.exa hZ.alike A3 (by decide) (by decide)) sf0) C4.1)
  refine go_tr st9 ?_
  show Go _ _ _ _ (T9.setTop (mkF m 24 #[rv oo] [(.ref b3)]))
  have sf11 : Safe Z consts_1 s.vm h9 va_9 := Safe.keep K9 (sfS (Safe.exa hZ.alike A3 (by decide) (by decide)) sf0) C4.1 (Safe.new lf9_0)
  refine go_st (fun t k => XS.aloadN X9.here hx rfl (hb hby d11_24) rfl rfl k) ?_
  show Go _ _ _ _ (T9.setTop (mkF m 25 #[rv oo] [(.ref oo), (.ref b3)]))
  have nq12 : oo ≠ b3 := Nat.ne_of_lt (Nat.lt_of_lt_of_le (Nat.lt_of_lt_of_le H0.lt (Nat.le_refl _)) (Nat.le_of_eq gq3.symm))
  have f13 : Fld Z h9 oo "com/example/tuplet/tuplet/Commands$Option" "name" "Ljava/lang/String;" (.ref ns) := ((H1.ext E3).keep K9 (ninS nq12 nin0))
  obtain ⟨T14, X14, e14, st14⟩ := getF X9 hx hZ hown (host := "") (Or.inl (w56 hw)) Via.refl e9 f13 (g := (mkF m 25 #[rv oo] [(.ref oo), (.ref b3)])) rfl rfl (hb hby d11_25)
  refine go_st (fun t k => st14 t k) ?_
  show Go _ _ _ _ (T14.setTop (mkF m 28 #[rv oo] [(.ref ns), (.ref b3)]))
  have f15 : Exa Z h9 ns "java/lang/String" := ((H7.ext E3).keep K9)
  have nq16 : ns ≠ b3 := Nat.ne_of_lt (Nat.lt_of_lt_of_le (Nat.lt_of_lt_of_le H7.lt (Nat.le_refl _)) (Nat.le_of_eq gq3.symm))
  have f17 : Fld Z h9 ns "java/lang/String" "value" "[B" (.ref nt) := ((H8.ext E3).keep K9 (ninS nq16 nin0))
  have f18 : Fld Z h9 ns "java/lang/String" "coder" "B" (.int 0) := ((H9.ext E3).keep K9 (ninS nq16 nin0))
  have nq19 : nt ≠ b3 := Nat.ne_of_lt (Nat.lt_of_lt_of_le (Nat.lt_of_lt_of_le H10.lt (Nat.le_refl _)) (Nat.le_of_eq gq3.symm))
  have f20 : Arv Z h9 nt kn .byte (2 : Int32) [(.int n0_), (.int n1_)] (.int (0 : Int32)) := ((H10.ext E3).keep K9 (ninS nq19 nin0))
  have oe21 : Old Z n0 h9 := (Old.keep oe8 K9 (allS g_b3 all0))
  have sz22 : h0.size ≤ h9.size := (Nat.le_trans E3.1 K9.1)
  obtain ⟨cq23, kq23, q23a, q23b, q23c⟩ := isOf hZ e14 p9_1
  obtain ⟨_, _, ⟨T23, L23, kk23, nn23⟩, -, X23, ⟨Lc23, hQ23, lq23, yq23, zq23⟩, st23⟩ := X14.virtualBack hx (y := (⟨"java/lang/StringBuilder", "append", "(Ljava/lang/String;)Ljava/lang/StringBuilder;"⟩ : MethodName)) (z := (⟨"java/lang/StringBuilder", "append", "(Ljava/lang/String;)Ljava/lang/StringBuilder;"⟩ : MethodName)) hown (mvT hZ (w149 hw)) (mvT hZ (w150 hw)) (notFace_of_selects (args := #[]) (mvT hZ (w152 hw))) (mvT hZ (w152 hw)) (mvT hZ (w151 hw)) (by decide) (backOf (W := 0) (rm_sbaps0_2 l Z a0 hw [] ns nt kn n0_ n1_ b3 va_9 kv_9 (0 : Int32) (0 : Int32) (0 : Int32) (0 : Int32) G1 h9 n0 (Nat.le_trans Z0 sz22) f15 f17 f18 f20 p9_1 p9_2 p9_3 p9_4 p9_5 g_b3 gf9_0 CS CSn oe21) hZ (w153 hw) (w133 hw) (by decide) (by decide)) q23a q23c (g := (mkF m 28 #[rv oo] [(.ref ns), (.ref b3)])) rfl (by rw [hml]; rfl) (Steps.refl _) (argsL := [(.ref ns)]) (rest := []) (lenOf pd_10 rfl) rfl (by show 2 * 0 + _ ≤ _; exact Nat.le_of_eq rfl) (hb hby d11_28) (fun _ _ => ⟨rfl, e14, (by decide : 2 + 0 ≤ _), (by decide : 20 + 0 ≤ _)⟩)
  dsimp only [Pt.U, Pt.locs, Pt.cells, Pt.slots] at X23 lq23 yq23 zq23 st23 hQ23
  obtain rfl : kk23 = 2 := yq23
  obtain rfl : nn23 = 20 := zq23
  obtain ⟨h23, e23⟩ : ∃ z, T23.heap = z := ⟨_, rfl⟩
  rw [e23] at hQ23
  obtain ⟨rfl, N23q, K23, p23_0, p23_1, p23_2, p23_3, p23_4⟩ := hQ23
  have N23 : Fr n0 L23 := by rw [lq23]; exact Fr.app N9 N23q
  have C24 : CHr Z consts_1 s.vm h0 s.vm h23 := CHr.trans C10 (CHr.keep K23 (sfS (Safe.exa hZ.alike p9_1 (by decide) (by decide)) (sfS sf11 sf0)) C10.1)
  have sf25 : Safe Z consts_1 s.vm h23 va_9 := (Safe.keep K23 (sfS (Safe.exa hZ.alike p9_1 (by decide) (by decide)) (sfS sf11 sf0)) C10.1 sf11)
  refine go_tr st23 ?_
  show Go _ _ _ _ (T23.setTop (mkF m 31 #[rv oo] [(.ref b3)]))
  have sz27 : h0.size ≤ h23.size := (Nat.le_trans sz22 K23.1)
  obtain ⟨li26, T26, h26, kk26, t26, kb26, X26, e26, E26, hS26, hk26, hZ26, hown26, Es26, Cs26, Vs26, As26, lla26, llt26, hC26, -, hne26, st26⟩ := ldcCH (vm0 := s.vm) X23 hx hZ hown (w196 hw) (str_atoms hw) e23 hS0 (Nat.le_trans hk0 sz27) (hEL hw) (List.mem_of_getElem? (i := 0) rfl) C24.1 (vs := [.int (32 : Int32)]) (z := (1 : Int32)) (by decide) (by decide) (by decide) (g := (mkF m 31 #[rv oo] [(.ref b3)])) rfl (hb hby d11_31) (n := 4) (by decide) (by decide) (by decide) (by decide)
  have C28 : CHr Z consts_1 s.vm h0 T26.vm h26 := CHr.trans C24 hC26
  have sf29 : Safe Z consts_1 T26.vm h26 va_9 := (CHr.safe hC26 p23_4.lt sf25)
  refine go_st (fun t k => st26 t k) ?_
  show Go _ _ _ _ (T26.setTop (mkF m 33 #[rv oo] [(.ref li26), (.ref b3)]))
  have f30 : Arv Z h26 t26 kb26 .byte (1 : Int32) [(.int 32)] (.int 0) := As26
  have f31 : Exa Z h26 b3 "java/lang/StringBuilder" := (p23_0.ext E26)
  have f32 : Fld Z h26 b3 "java/lang/AbstractStringBuilder" "value" "[B" (.ref va_9) := (p23_1.ext E26)
  have f33 : Fld Z h26 b3 "java/lang/AbstractStringBuilder" "coder" "B" (.int 0) := (p23_2.ext E26)
  have f34 : Fld Z h26 b3 "java/lang/AbstractStringBuilder" "count" "I" (.int 2) := (p23_3.ext E26)
  have f35 : Arv Z h26 va_9 kv_9 .byte (16 : Int32) [(.int n0_), (.int n1_), (.int 0), (.int 0)] (.int (0 : Int32)) := (p23_4.ext E26)
  have oe36 : Old Z n0 h23 := (Old.keep oe21 K23 (allS g_b3 (allS gf9_0 all0)))
  have oe37 : Old Z n0 h26 := (Old.ext oe36 E26)
  have sz38 : h0.size ≤ h26.size := (Nat.le_trans sz27 E26.1)
  obtain ⟨cq39, kq39, q39a, q39b, q39c⟩ := isOf hZ26 e26 f31
  obtain ⟨_, _, ⟨T39, L39, kk39, nn39⟩, -, X39, ⟨Lc39, hQ39, lq39, yq39, zq39⟩, st39⟩ := X26.virtualBack hx (y := (⟨"java/lang/StringBuilder", "append", "(Ljava/lang/String;)Ljava/lang/StringBuilder;"⟩ : MethodName)) (z := (⟨"java/lang/StringBuilder", "append", "(Ljava/lang/String;)Ljava/lang/StringBuilder;"⟩ : MethodName)) hown26 (mvT hZ26 (w149 hw)) (mvT hZ26 (w150 hw)) (notFace_of_selects (args := #[]) (mvT hZ26 (w152 hw))) (mvT hZ26 (w152 hw)) (mvT hZ26 (w151 hw)) (by decide) (backOf (W := 0) (rm_sbaps2_1 l Z a0 hw [] li26 t26 kb26 (32 : Int32) b3 va_9 kv_9 n0_ n1_ (0 : Int32) (0 : Int32) G1 h26 n0 (Nat.le_trans Z0 sz38) Es26 Vs26 Cs26 f30 f31 f32 f33 f34 f35 g_b3 gf9_0 CS CSn oe37) hZ26 (w153 hw) (w133 hw) (by decide) (by decide)) q39a q39c (g := (mkF m 33 #[rv oo] [(.ref li26), (.ref b3)])) rfl (by rw [hml]; rfl) (Steps.refl _) (argsL := [(.ref li26)]) (rest := []) (lenOf pd_10 rfl) rfl (by show 2 * 0 + _ ≤ _; exact Nat.le_of_eq rfl) (hb hby d11_33) (fun _ _ => ⟨rfl, e26, (by decide : 4 + 0 ≤ _), (by decide : 28 + 0 ≤ _)⟩)
  dsimp only [Pt.U, Pt.locs, Pt.cells, Pt.slots] at X39 lq39 yq39 zq39 st39 hQ39
  obtain rfl : kk39 = 4 := yq39
  obtain rfl : nn39 = 28 := zq39
  obtain ⟨h39, e39⟩ : ∃ z, T39.heap = z := ⟨_, rfl⟩
  rw [e39] at hQ39
  obtain ⟨rfl, N39q, K39, p39_0, p39_1, p39_2, p39_3, p39_4⟩ := hQ39
  have N39 : Fr n0 L39 := by rw [lq39]; exact Fr.app N23 N39q
  have C40 : CHr Z consts_1 s.vm h0 T26.vm h39 := CHr.trans C28 (CHr.keep K39 (sfS (Safe.exa hZ26.alike f31 (by decide) (by decide)) (sfS sf29 sf0)) C28.1)
  have sf41 : Safe Z consts_1 T26.vm h39 va_9 := (Safe.keep K39 (sfS (Safe.exa hZ26.alike f31 (by decide) (by decide)) (sfS sf29 sf0)) C28.1 sf29)
  refine go_tr st39 ?_
  show Go _ _ _ _ (T39.setTop (mkF m 36 #[rv oo] [(.ref b3)]))
  refine go_st (fun t k => XS.aloadN X39.here hx rfl (hb hby d11_36) rfl rfl k) ?_
  show Go _ _ _ _ (T39.setTop (mkF m 37 #[rv oo] [(.ref oo), (.ref b3)]))
  have nq42 : oo ≠ va_9 := Nat.ne_of_lt (Nat.lt_of_lt_of_le (Nat.lt_of_lt_of_le H0.lt E3.1) lf9_0)
  have f43 : Fld Z h39 oo "com/example/tuplet/tuplet/Commands$Option" "label" "Ljava/lang/String;" (.ref ls) := (((((H2.ext E3).keep K9 (ninS nq12 nin0)).keep K23 (ninS nq12 (ninS nq42 nin0))).ext E26).keep K39 (ninS nq12 (ninS nq42 nin0)))
  obtain ⟨T44, X44, e44, st44⟩ := getF X39 hx hZ26 hown26 (host := "") (Or.inl (w60 hw)) Via.refl e39 f43 (g := (mkF m 37 #[rv oo] [(.ref oo), (.ref b3)])) rfl rfl (hb hby d11_37)
  refine go_st (fun t k => st44 t k) ?_
  show Go _ _ _ _ (T44.setTop (mkF m 40 #[rv oo] [(.ref ls), (.ref b3)]))
  have f45 : Exa Z h39 ls "java/lang/String" := (((((H3.ext E3).keep K9).keep K23).ext E26).keep K39)
  have nq46 : ls ≠ b3 := Nat.ne_of_lt (Nat.lt_of_lt_of_le (Nat.lt_of_lt_of_le H3.lt (Nat.le_refl _)) (Nat.le_of_eq gq3.symm))
  have nq47 : ls ≠ va_9 := Nat.ne_of_lt (Nat.lt_of_lt_of_le (Nat.lt_of_lt_of_le H3.lt E3.1) lf9_0)
  have f48 : Fld Z h39 ls "java/lang/String" "value" "[B" (.ref lt) := (((((H4.ext E3).keep K9 (ninS nq46 nin0)).keep K23 (ninS nq46 (ninS nq47 nin0))).ext E26).keep K39 (ninS nq46 (ninS nq47 nin0)))
  have f49 : Fld Z h39 ls "java/lang/String" "coder" "B" (.int 0) := (((((H5.ext E3).keep K9 (ninS nq46 nin0)).keep K23 (ninS nq46 (ninS nq47 nin0))).ext E26).keep K39 (ninS nq46 (ninS nq47 nin0)))
  have nq50 : lt ≠ b3 := Nat.ne_of_lt (Nat.lt_of_lt_of_le (Nat.lt_of_lt_of_le H6.lt (Nat.le_refl _)) (Nat.le_of_eq gq3.symm))
  have nq51 : lt ≠ va_9 := Nat.ne_of_lt (Nat.lt_of_lt_of_le (Nat.lt_of_lt_of_le H6.lt E3.1) lf9_0)
  have f52 : Arv Z h39 lt kl .byte (1 : Int32) [(.int l0_)] (.int (0 : Int32)) := (((((H6.ext E3).keep K9 (ninS nq50 nin0)).keep K23 (ninS nq50 (ninS nq51 nin0))).ext E26).keep K39 (ninS nq50 (ninS nq51 nin0)))
  have oe53 : Old Z n0 h39 := (Old.keep oe37 K39 (allS g_b3 (allS gf9_0 all0)))
  have sz54 : h0.size ≤ h39.size := (Nat.le_trans sz38 K39.1)
  obtain ⟨cq55, kq55, q55a, q55b, q55c⟩ := isOf hZ26 e44 p39_0
  obtain ⟨_, _, ⟨T55, L55, kk55, nn55⟩, -, X55, ⟨Lc55, hQ55, lq55, yq55, zq55⟩, st55⟩ := X44.virtualBack hx (y := (⟨"java/lang/StringBuilder", "append", "(Ljava/lang/String;)Ljava/lang/StringBuilder;"⟩ : MethodName)) (z := (⟨"java/lang/StringBuilder", "append", "(Ljava/lang/String;)Ljava/lang/StringBuilder;"⟩ : MethodName)) hown26 (mvT hZ26 (w149 hw)) (mvT hZ26 (w150 hw)) (notFace_of_selects (args := #[]) (mvT hZ26 (w152 hw))) (mvT hZ26 (w152 hw)) (mvT hZ26 (w151 hw)) (by decide) (backOf (W := 0) (rm_sbaps3_1 l Z a0 hw [] ls lt kl l0_ b3 va_9 kv_9 n0_ n1_ (32 : Int32) (0 : Int32) G1 h39 n0 (Nat.le_trans Z0 sz54) f45 f48 f49 f52 p39_0 p39_1 p39_2 p39_3 p39_4 g_b3 gf9_0 CS CSn oe53) hZ26 (w153 hw) (w133 hw) (by decide) (by decide)) q55a q55c (g := (mkF m 40 #[rv oo] [(.ref ls), (.ref b3)])) rfl (by rw [hml]; rfl) (Steps.refl _) (argsL := [(.ref ls)]) (rest := []) (lenOf pd_10 rfl) rfl (by show 2 * 0 + _ ≤ _; exact Nat.le_of_eq rfl) (hb hby d11_40) (fun _ _ => ⟨rfl, e44, (by decide : 4 + 0 ≤ _), (by decide : 28 + 0 ≤ _)⟩)
  dsimp only [Pt.U, Pt.locs, Pt.cells, Pt.slots] at X55 lq55 yq55 zq55 st55 hQ55
  obtain rfl : kk55 = 4 := yq55
  obtain rfl : nn55 = 28 := zq55
  obtain ⟨h55, e55⟩ : ∃ z, T55.heap = z := ⟨_, rfl⟩
  rw [e55] at hQ55
  obtain ⟨rfl, N55q, K55, p55_0, p55_1, p55_2, p55_3, p55_4⟩ := hQ55
  have N55 : Fr n0 L55 := by rw [lq55]; exact Fr.app N39 N55q
  have C56 : CHr Z consts_1 s.vm h0 T26.vm h55 := CHr.trans C40 (CHr.keep K55 (sfS (Safe.exa hZ26.alike p39_0 (by decide) (by decide)) (sfS sf41 sf0)) C40.1)
  have sf57 : Safe Z consts_1 T26.vm h55 va_9 := (Safe.keep K55 (sfS (Safe.exa hZ26.alike p39_0 (by decide) (by decide)) (sfS sf41 sf0)) C40.1 sf41)
  refine go_tr st55 ?_
  show Go _ _ _ _ (T55.setTop (mkF m 43 #[rv oo] [(.ref b3)]))
  have oe58 : Old Z n0 h55 := (Old.keep oe53 K55 (allS g_b3 (allS gf9_0 all0)))
  have sz59 : h0.size ≤ h55.size := (Nat.le_trans sz54 K55.1)
  obtain ⟨cq60, kq60, q60a, q60b, q60c⟩ := isOf hZ26 e55 p55_0
  obtain ⟨_, _, ⟨T60, L60, kk60, nn60⟩, -, X60, ⟨Lc60, hQ60, lq60, yq60, zq60⟩, st60⟩ := X55.virtualBack hx (y := (⟨"java/lang/StringBuilder", "toString", "()Ljava/lang/String;"⟩ : MethodName)) (z := (⟨"java/lang/StringBuilder", "toString", "()Ljava/lang/String;"⟩ : MethodName)) hown26 (mvT hZ26 (w197 hw)) (mvT hZ26 (w198 hw)) (nf_same (y := (⟨"java/lang/StringBuilder", "toString", "()Ljava/lang/String;"⟩ : MethodName)) (y' := (⟨"java/lang/StringBuilder", "append", "(Ljava/lang/String;)Ljava/lang/StringBuilder;"⟩ : MethodName)) (a0 := #[]) rfl (mvT hZ26 (w151 hw)) (notFace_of_selects (args := #[]) (mvT hZ26 (w152 hw)))) (mvT hZ26 (w200 hw)) (mvT hZ26 (w199 hw)) (by decide) (backOf (W := 0) (rm_tos4 l Z a0 hw [] b3 va_9 kv_9 n0_ n1_ (32 : Int32) l0_ G1 h55 n0 (Nat.le_trans Z0 sz59) p55_0 p55_1 p55_2 p55_3 p55_4 CS CSn oe58) hZ26 (w201 hw) (w133 hw) (by decide) (by decide)) q60a q60c (g := (mkF m 43 #[rv oo] [(.ref b3)])) rfl (by rw [hml]; rfl) (Steps.refl _) (argsL := []) (rest := []) (lenOf pd_17 rfl) rfl (by show 2 * 0 + _ ≤ _; exact Nat.le_of_eq rfl) (hb hby d11_43) (fun _ _ => ⟨rfl, e55, (by decide : 4 + 2 ≤ _), (by decide : 28 + 8 ≤ _)⟩)
  dsimp only [Pt.U, Pt.locs, Pt.cells, Pt.slots] at X60 lq60 yq60 zq60 st60 hQ60
  obtain rfl : kk60 = 6 := yq60
  obtain rfl : nn60 = 36 := zq60
  obtain ⟨h60, e60⟩ : ∃ z, T60.heap = z := ⟨_, rfl⟩
  rw [e60] at hQ60
  obtain ⟨sa_60, ta_60, kt_60, rfl, N60q, K60, gf60_0, lf60_0, gf60_1, lf60_1, p60_2, p60_3, p60_4, p60_5⟩ := hQ60
  have N60 : Fr n0 L60 := by rw [lq60]; exact Fr.app N55 N60q
  have C61 : CHr Z consts_1 s.vm h0 T26.vm h60 := CHr.trans C56 (CHr.keep K60 sf0 C56.1)
  have sf62 : Safe Z consts_1 T26.vm h60 va_9 := (Safe.keep K60 sf0 C56.1 sf57)
  refine go_tr st60 ?_
  show Go _ _ _ _ (T60.setTop (mkF m 46 #[rv oo] [(.ref sa_60)]))
  have sf63 : Safe Z consts_1 T26.vm h60 sa_60 := Safe.keep K60 sf0 C56.1 (Safe.new lf60_0)
  have sf64 : Safe Z consts_1 T26.vm h60 ta_60 := Safe.keep K60 sf0 C56.1 (Safe.new lf60_1)
  have ke65 : Keep h0 h3 [] := (Keep.ext (Keep.refl h0 []) E3)
  have ke66 : Keep h0 h9 [] := (Keep.trans ke65 K9 (allS (Or.inr (Nat.le_of_eq gq3.symm)) all0))
  have ke67 : Keep h0 h23 [] := (Keep.trans ke66 K23 (allS (Or.inr (Nat.le_of_eq gq3.symm)) (allS (Or.inr (Nat.le_trans E3.1 lf9_0)) all0)))
  have ke68 : Keep h0 h26 [] := (Keep.ext ke67 E26)
  have ke69 : Keep h0 h39 [] := (Keep.trans ke68 K39 (allS (Or.inr (Nat.le_of_eq gq3.symm)) (allS (Or.inr (Nat.le_trans E3.1 lf9_0)) all0)))
  have ke70 : Keep h0 h55 [] := (Keep.trans ke69 K55 (allS (Or.inr (Nat.le_of_eq gq3.symm)) (allS (Or.inr (Nat.le_trans E3.1 lf9_0)) all0)))
  have ke71 : Keep h0 h60 [] := (Keep.trans ke70 K60 all0)
  have sz72 : h26.size ≤ h55.size := (Nat.le_trans K39.1 K55.1)
  have sz73 : h26.size ≤ h60.size := (Nat.le_trans sz72 K60.1)
  obtain ⟨fs, hr, hrun, hended, hR⟩ := X60.leaveW hS26 (by rw [e60]; exact (Nat.le_trans hk26 sz73)) (v := some (.ref sa_60)) (fun h => by rw [Bd.returns] at h; cases h)
  refine ⟨_, _, ?_, hrun, hended, _, _, rfl, ?_, ?_, hR.1, hR.2.1, hR.2.2.1, hR.2.2.2.mono (by decide) (by decide)⟩
  · exact retOut X60 hx Bd.returns rfl (Or.inr (Or.inr (Or.inr (Or.inr ⟨rfl, rfl, rfl⟩)))) (hb hby d11_46) hr
  · show Q_shown1 _ _ _ _ _ _ _ _ _ _ _ _ _ _ _ T60.heap _
    rw [e60]
    exact ⟨sa_60, ta_60, kt_60, rfl, N60, ke71, gf60_0, (Nat.le_trans sz59 lf60_0), gf60_1, (Nat.le_trans sz59 lf60_1), p60_2, p60_3, p60_4, p60_5⟩
  · show CHr Z consts_1 s.vm s.heap T60.vm T60.heap
    rw [hh, e60]
    exact CHr.trans C61 (CHv.at X60 hZ26 (hEL hw) C61.1)
def Q_can (Z : State) (ch : Int32) (h0 : Heap) (n0 : Nat) (vR : Option Value) (h : Heap) (L : List Loc) : Prop := vR = some (.int 1) ∧ Fr n0 L ∧ h = h0
theorem ef_can (m : MethodId) (x0 : Int32) : entryFrame m #[(.int x0)] 1 = mkF m 0 #[.val (.int x0)] [] := by first | (simp [entryFrame, mkF, argsToLocals, Value.category]; done) | rfl
set_option maxRecDepth 65536 in
set_option maxHeartbeats 40000000 in
theorem rm_can (l : Launch) (Z : State) (a0 : Array Value) (hw : ∀ d ∈ tables_1, d.before a0 Z = true) (ws : List Jvm.Cond) (ch : Int32) (h0 : Heap) (n0 : Nat) (Z0 : n0 ≤ h0.size) (hch : ¬ ((255 : Int32) < ch)) :
    MetFree l (⟨"java/lang/StringLatin1", "canEncode", "(C)Z"⟩ : MethodName) (head1 (Jvm.Cond.code (⟨"java/lang/StringLatin1", "canEncode", "(C)Z"⟩ : MethodName) jdk_43_method_3_code 1 (some .boolean) :: ws) ({ frames := 0, cells := 0, slots := 0, locals := 0 } : Room)) (fun a U => a = #[(.int ch)] ∧ Z.Warmed39 U.vm ∧ U.heap = h0) (fun _ _ _ _ _ => True) (fun _ U o U' => ∃ v L, o = .returned v ∧ Q_can Z ch h0 n0 v U'.heap L ∧ FrameEnd U o U' L ({ frames := 0, cells := 0, slots := 0, locals := 0 } : Room).cells ({ frames := 0, cells := 0, slots := 0, locals := 0 } : Room).slots) := by
  refine MetFree.of_bodySF (plainFor_of_name pn_java_lang_StringLatin1) hisR ?_
  intro p e s m args below meth c s₁ Bd hml0 hP hK
  obtain ⟨rfl, hZ, hh⟩ := hP
  have hx := Bd.exec
  have hby := Bd.bytes
  have hml : c.maxLocals = 1 := hml0
  have hown : s.vm.findClass "java/lang/StringLatin1" = some m.cls := findClass_of_methodNamed Bd.named
  have hnm := (name_of_methodNamed Bd.named Bd.method).1
  have X0 : Stand p l e ({ frames := 0, cells := 0, slots := 0, locals := 0 } : Room) s m #[(.int ch)] below meth c s₁ [] 0 0 := Stand.of_body Bd
  have e0 : s₁.heap = h0 := by rw [← hh, Bd.state]; rfl
  have N0 := Fr.nil n0
  refine go_st (fun t k => castTop (ef_can m ch) k) ?_
  show Go _ _ _ _ (s₁.setTop (mkF m 0 #[iv ch] []))
  refine go_st (fun t k => XS.iloadN X0.here hx rfl (hb hby d35_0) rfl k) ?_
  show Go _ _ _ _ (s₁.setTop (mkF m 1 #[iv ch] [(.int ch)]))
  refine go_st (fun t k => XS.sipush X0.here hx rfl (hb hby d35_1) k) ?_
  show Go _ _ _ _ (s₁.setTop (mkF m 4 #[iv ch] [(.int 255), (.int ch)]))
  refine go_st (fun t k => XS.icmpNo X0.here hx rfl (hb hby d35_4) rfl (flt (hch : ¬ ((255 : Int32) < ch))).2.2.1 k) ?_
  show Go _ _ _ _ (s₁.setTop (mkF m 7 #[iv ch] []))
  refine go_st (fun t k => XS.iconst X0.here hx rfl (hb hby d35_7) k) ?_
  show Go _ _ _ _ (s₁.setTop (mkF m 8 #[iv ch] [(.int 1)]))
  refine go_st (fun t k => XS.goto X0.here hx rfl (pc0 := 8) (pc' := 12) rfl (hb hby d35_8) (by decide) (by decide) k) ?_
  show Go _ _ _ _ (s₁.setTop (mkF m 12 #[iv ch] [(.int 1)]))
  obtain ⟨fs, hr, hrun, hended, hW, hsame⟩ := X0.leave (v := some (.int 1)) (fun h => by rw [Bd.returns] at h; cases h)
  refine ⟨_, _, ?_, hrun, hended, _, _, rfl, ?_, ⟨_, rfl⟩, hW, hsame.mono (by decide) (by decide)⟩
  · exact retN X0 hx (t := .boolean) Bd.returns (by simp) (hb hby d35_12) hr
  · show Q_can _ _ _ _ _ s₁.heap _
    rw [e0]
    exact ⟨rfl, N0, rfl⟩
def Q_tob (Z : State) (ch : Int32) (h0 : Heap) (n0 : Nat) (vR : Option Value) (h : Heap) (L : List Loc) : Prop := ∃ (ta : Addr) (kt : ClassId), vR = some (.ref ta) ∧ Fr n0 L ∧ Keep h0 h [] ∧ n0 ≤ ta ∧ h0.size ≤ ta ∧ (Arv Z h ta kt .byte (1 : Int32) [(.int (nar .byte (ch.toInt8.toInt32)))] (.int (0 : Int32)))
theorem ef_tob (m : MethodId) (x0 : Int32) : entryFrame m #[(.int x0)] 1 = mkF m 0 #[.val (.int x0)] [] := by first | (simp [entryFrame, mkF, argsToLocals, Value.category]; done) | rfl
set_option maxRecDepth 65536 in
set_option maxHeartbeats 40000000 in
theorem rm_tob (l : Launch) (Z : State) (a0 : Array Value) (hw : ∀ d ∈ tables_1, d.before a0 Z = true) (ws : List Jvm.Cond) (ch : Int32) (h0 : Heap) (n0 : Nat) (Z0 : n0 ≤ h0.size) (hch : ¬ ((255 : Int32) < ch)) :
    MetFree l (⟨"java/lang/StringLatin1", "toBytes", "(C)[B"⟩ : MethodName) (head1 (Jvm.Cond.code (⟨"java/lang/StringLatin1", "toBytes", "(C)[B"⟩ : MethodName) jdk_43_method_46_code 1 (some (.array .byte)) :: ws) ({ frames := 0, cells := 1, slots := 1, locals := 0 } : Room)) (fun a U => a = #[(.int ch)] ∧ Z.Warmed39 U.vm ∧ U.heap = h0) (fun _ _ _ _ _ => True) (fun _ U o U' => ∃ v L, o = .returned v ∧ Q_tob Z ch h0 n0 v U'.heap L ∧ FrameEnd U o U' L ({ frames := 0, cells := 1, slots := 1, locals := 0 } : Room).cells ({ frames := 0, cells := 1, slots := 1, locals := 0 } : Room).slots) := by
  refine MetFree.of_bodySF (plainFor_of_name pn_java_lang_StringLatin1) hisR ?_
  intro p e s m args below meth c s₁ Bd hml0 hP hK
  obtain ⟨rfl, hZ, hh⟩ := hP
  have hx := Bd.exec
  have hby := Bd.bytes
  have hml : c.maxLocals = 1 := hml0
  have hown : s.vm.findClass "java/lang/StringLatin1" = some m.cls := findClass_of_methodNamed Bd.named
  have hnm := (name_of_methodNamed Bd.named Bd.method).1
  have X0 : Stand p l e ({ frames := 0, cells := 1, slots := 1, locals := 0 } : Room) s m #[(.int ch)] below meth c s₁ [] 0 0 := Stand.of_body Bd
  have e0 : s₁.heap = h0 := by rw [← hh, Bd.state]; rfl
  have N0 := Fr.nil n0
  refine go_st (fun t k => castTop (ef_tob m ch) k) ?_
  show Go _ _ _ _ (s₁.setTop (mkF m 0 #[iv ch] []))
  refine go_st (fun t k => XS.iconst X0.here hx rfl (hb hby d36_0) k) ?_
  show Go _ _ _ _ (s₁.setTop (mkF m 1 #[iv ch] [(.int 1)]))
  obtain ⟨T1, h1, kc1, X1, e1, E1, A1, st1⟩ := newP X0 hx hZ (aty := .byte) (w27 hw) e0 (g := (mkF m 1 #[iv ch] [(.int 1)])) rfl (hb hby d36_1) rfl (by decide) (cap := 1) (by decide) (by decide) (by decide) (by decide)
  obtain ⟨b1, gq1⟩ : ∃ z, z = h0.size := ⟨_, rfl⟩
  rw [← gq1] at A1 st1
  have f2 : Arv Z h1 b1 kc1 .byte (1 : Int32) [(.int 0)] (.int 0) := (Arv.new A1 (by decide)).pad (pad_rep [] (.int 0) 1)
  refine go_st (fun t k => st1 t k) ?_
  show Go _ _ _ _ (T1.setTop (mkF m 3 #[iv ch] [(.ref b1)]))
  refine go_st (fun t k => XS.dup X1.here hx rfl (hb hby d36_3) rfl rfl k) ?_
  show Go _ _ _ _ (T1.setTop (mkF m 4 #[iv ch] [(.ref b1), (.ref b1)]))
  refine go_st (fun t k => XS.iconst X1.here hx rfl (hb hby d36_4) k) ?_
  show Go _ _ _ _ (T1.setTop (mkF m 5 #[iv ch] [(.int 0), (.ref b1), (.ref b1)]))
  refine go_st (fun t k => XS.iloadN X1.here hx rfl (hb hby d36_5) rfl k) ?_
  show Go _ _ _ _ (T1.setTop (mkF m 6 #[iv ch] [(.int ch), (.int 0), (.ref b1), (.ref b1)]))
  refine go_st (fun t k => XS.i2b X1.here hx rfl (hb hby d36_6) rfl k) ?_
  show Go _ _ _ _ (T1.setTop (mkF m 7 #[iv ch] [(.int ((ch).toInt8.toInt32)), (.int 0), (.ref b1), (.ref b1)]))
  obtain ⟨zc3, zA3, zq3, zS3, zN3, zH3, zG3⟩ := id f2
  have hin3 : ¬ ((0 : Int32) < 0 ∨ zc3.slots.size ≤ ((0 : Int32)).toNatClampNeg) := inb_of zS3 ⟨by decide, by decide⟩
  obtain ⟨T3, h3, X3, e3, W3, st3⟩ := stB X1 hx hZ e1 zA3 (j := (0 : Int32)) hin3 (g := (mkF m 7 #[iv ch] [(.int ((ch).toInt8.toInt32)), (.int 0), (.ref b1), (.ref b1)])) rfl rfl (hb hby d36_7)
  have g_b1 : n0 ≤ b1 := Nat.le_trans (Nat.le_trans Z0 (Nat.le_refl _)) (Nat.le_of_eq gq1.symm)
  have N3 := Fr.snoc X3 N0 g_b1
  have f4 : Arv Z h3 b1 kc1 .byte (1 : Int32) [(.int (nar .byte ((ch).toInt8.toInt32)))] (.int 0) := Arv.set zA3 zq3 zS3 zN3 zH3 zG3 (fits_nar_byte _) W3 0 rfl (Nat.le_of_ble_eq_true rfl)
  refine go_st (fun t k => st3 t k) ?_
  show Go _ _ _ _ (T3.setTop (mkF m 8 #[iv ch] [(.ref b1)]))
  have ke5 : Keep h0 h1 [] := (Keep.ext (Keep.refl h0 []) E1)
  have ke6 : Keep h0 h3 [] := (Keep.wr ke5 W3 (Or.inr (Nat.le_of_eq gq1.symm)))
  obtain ⟨fs, hr, hrun, hended, hW, hsame⟩ := X3.leave (v := some (.ref b1)) (fun h => by rw [Bd.returns] at h; cases h)
  refine ⟨_, _, ?_, hrun, hended, _, _, rfl, ?_, ⟨_, rfl⟩, hW, hsame.mono (by decide) (by decide)⟩
  · exact retOut X3 hx Bd.returns rfl (Or.inr (Or.inr (Or.inr (Or.inr ⟨rfl, rfl, rfl⟩)))) (hb hby d36_8) hr
  · show Q_tob _ _ _ _ _ T3.heap _
    rw [e3]
    exact ⟨b1, kc1, rfl, N3, ke6, g_b1, (Nat.le_of_eq gq1.symm), f4⟩
def Q_strbb (Z : State) (sa : Addr) (ta : Addr) (h0 : Heap) (n0 : Nat) (vR : Option Value) (h : Heap) (L : List Loc) : Prop := vR = none ∧ Fr n0 L ∧ Keep h0 h [sa] ∧ (Exa Z h sa "java/lang/String") ∧ (Fld Z h sa "java/lang/String" "value" "[B" (.ref ta)) ∧ (Fld Z h sa "java/lang/String" "coder" "B" (.int 0))
theorem ef_strbb (m : MethodId) (x0 : Addr) (x1 : Addr) (x2 : Int32) : entryFrame m #[(.ref x0), (.ref x1), (.int x2)] 3 = mkF m 0 #[.val (.ref x0), .val (.ref x1), .val (.int x2)] [] := by first | (simp [entryFrame, mkF, argsToLocals, Value.category]; done) | rfl
set_option maxRecDepth 65536 in
set_option maxHeartbeats 40000000 in
theorem rm_strbb (l : Launch) (Z : State) (a0 : Array Value) (hw : ∀ d ∈ tables_1, d.before a0 Z = true) (ws : List Jvm.Cond) (sa : Addr) (ta : Addr) (h0 : Heap) (n0 : Nat) (Z0 : n0 ≤ h0.size) (H0 : Exa Z h0 sa "java/lang/String") (H1 : Fld Z h0 sa "java/lang/String" "value" "[B" .null) (H2 : Fld Z h0 sa "java/lang/String" "coder" "B" (.int 0)) (g_sa : n0 ≤ sa) :
    MetFree l (⟨"java/lang/String", "<init>", "([BB)V"⟩ : MethodName) (head1 (Jvm.Cond.code (⟨"java/lang/String", "<init>", "([BB)V"⟩ : MethodName) jdk_42_method_151_code 3 none :: ws) ({ frames := 1, cells := 0, slots := 0, locals := 12 } : Room)) (fun a U => a = #[(.ref sa), (.ref ta), (.int 0)] ∧ Z.Warmed39 U.vm ∧ U.heap = h0) (fun _ _ _ _ _ => True) (fun _ U o U' => ∃ v L, o = .returned v ∧ Q_strbb Z sa ta h0 n0 v U'.heap L ∧ FrameEnd U o U' L ({ frames := 1, cells := 0, slots := 0, locals := 12 } : Room).cells ({ frames := 1, cells := 0, slots := 0, locals := 12 } : Room).slots) := by
  refine MetFree.of_bodySF (plainFor_of_name pn_java_lang_String) hisR ?_
  intro p e s m args below meth c s₁ Bd hml0 hP hK
  obtain ⟨rfl, hZ, hh⟩ := hP
  have hx := Bd.exec
  have hby := Bd.bytes
  have hml : c.maxLocals = 3 := hml0
  have hown : s.vm.findClass "java/lang/String" = some m.cls := findClass_of_methodNamed Bd.named
  have hnm := (name_of_methodNamed Bd.named Bd.method).1
  have X0 : Stand p l e ({ frames := 1, cells := 0, slots := 0, locals := 12 } : Room) s m #[(.ref sa), (.ref ta), (.int 0)] below meth c s₁ [] 0 0 := Stand.of_body Bd
  have e0 : s₁.heap = h0 := by rw [← hh, Bd.state]; rfl
  have N0 := Fr.nil n0
  refine go_st (fun t k => castTop (ef_strbb m sa ta (0 : Int32)) k) ?_
  show Go _ _ _ _ (s₁.setTop (mkF m 0 #[rv sa, rv ta, iv 0] []))
  refine go_st (fun t k => XS.aloadN X0.here hx rfl (hb hby d37_0) rfl rfl k) ?_
  show Go _ _ _ _ (s₁.setTop (mkF m 1 #[rv sa, rv ta, iv 0] [(.ref sa)]))
  obtain ⟨T1, X1, e1, st1⟩ := initO X0 hx hZ hown (w19 hw) (w20 hw) (w21 hw) e0 (g := (mkF m 1 #[rv sa, rv ta, iv 0] [(.ref sa)])) rfl (by rw [hml]; rfl) rfl (hb hby d37_1) (by decide) (W := 0) (by show 2 * 0 + _ ≤ _; exact Nat.le_of_eq rfl) (by decide)
  refine go_st (fun t k => st1 t k) ?_
  show Go _ _ _ _ (T1.setTop (mkF m 4 #[rv sa, rv ta, iv 0] []))
  refine go_st (fun t k => XS.aloadN X1.here hx rfl (hb hby d37_4) rfl rfl k) ?_
  show Go _ _ _ _ (T1.setTop (mkF m 5 #[rv sa, rv ta, iv 0] [(.ref sa)]))
  refine go_st (fun t k => XS.aloadN X1.here hx rfl (hb hby d37_5) rfl rfl k) ?_
  show Go _ _ _ _ (T1.setTop (mkF m 6 #[rv sa, rv ta, iv 0] [(.ref ta), (.ref sa)]))
  obtain ⟨T2, h2, X2, e2, W2, st2⟩ := putF X1 hx hZ hown (host := "") (Or.inl (w36 hw)) Via.refl e1 H1 H0 (Or.inr ⟨(w37 hw), rfl, hnm⟩) (w10 hw) (ty := (.array .byte)) (by decide) rfl rfl (g := (mkF m 6 #[rv sa, rv ta, iv 0] [(.ref ta), (.ref sa)])) rfl rfl (hb hby d37_6)
  have N2 := Fr.snoc X2 N0 g_sa
  have f3 : Fld Z h2 sa "java/lang/String" "value" "[B" (.ref ta) := H1.same W2
  refine go_st (fun t k => st2 t k) ?_
  show Go _ _ _ _ (T2.setTop (mkF m 9 #[rv sa, rv ta, iv 0] []))
  refine go_st (fun t k => XS.aloadN X2.here hx rfl (hb hby d37_9) rfl rfl k) ?_
  show Go _ _ _ _ (T2.setTop (mkF m 10 #[rv sa, rv ta, iv 0] [(.ref sa)]))
  refine go_st (fun t k => XS.iloadN X2.here hx rfl (hb hby d37_10) rfl k) ?_
  show Go _ _ _ _ (T2.setTop (mkF m 11 #[rv sa, rv ta, iv 0] [(.int 0), (.ref sa)]))
  have f4 : Fld Z h2 sa "java/lang/String" "coder" "B" (.int 0) := (H2.other W2 (Or.inr (slot_ne (Or.inr (w35 hw)) (Or.inr (w37 hw)) (by decide) (t := .byte) (t' := (.array .byte)) (by decide) (by decide))))
  have f5 : Exa Z h2 sa "java/lang/String" := (H0.wr W2)
  obtain ⟨T6, h6, X6, e6, W6, st6⟩ := putFN X2 hx hZ hown (w34 hw) Via.refl e2 f4 f5 (Or.inr ⟨(w35 hw), rfl, hnm⟩) (w10 hw) (ty := .byte) (v' := (.int 0)) (by decide) rfl rfl (g := (mkF m 11 #[rv sa, rv ta, iv 0] [(.int 0), (.ref sa)])) rfl rfl (hb hby d37_11)
  have N6 := Fr.snoc X6 N2 g_sa
  have f7 : Fld Z h6 sa "java/lang/String" "coder" "B" (.int 0) := f4.same W6
  refine go_st (fun t k => st6 t k) ?_
  show Go _ _ _ _ (T6.setTop (mkF m 14 #[rv sa, rv ta, iv 0] []))
  have f8 : Exa Z h6 sa "java/lang/String" := (f5.wr W6)
  have f9 : Fld Z h6 sa "java/lang/String" "value" "[B" (.ref ta) := (f3.other W6 (Or.inr (slot_ne (Or.inr (w37 hw)) (Or.inr (w35 hw)) (by decide) (t := (.array .byte)) (t' := .byte) (by decide) (by decide))))
  have ke10 : Keep h0 h2 [sa] := (Keep.wr (Keep.refl h0 [sa]) W2 (Or.inl (List.mem_of_getElem? (i := 0) rfl)))
  have ke11 : Keep h0 h6 [sa] := (Keep.wr ke10 W6 (Or.inl (List.mem_of_getElem? (i := 0) rfl)))
  obtain ⟨fs, hr, hrun, hended, hW, hsame⟩ := X6.leave (v := none) (fun _ => rfl)
  refine ⟨_, _, ?_, hrun, hended, _, _, rfl, ?_, ⟨_, rfl⟩, hW, hsame.mono (by decide) (by decide)⟩
  · exact X6.returnOut hx Bd.returns (hb hby d37_14) hr
  · show Q_strbb _ _ _ _ _ _ T6.heap _
    rw [e6]
    exact ⟨rfl, N6, ke11, f8, f9, f7⟩
def Q_vof (Z : State) (ch : Int32) (G1 : Int32) (h0 : Heap) (n0 : Nat) (vR : Option Value) (h : Heap) (L : List Loc) : Prop := ∃ (sa : Addr) (ta : Addr) (kt : ClassId), vR = some (.ref sa) ∧ Fr n0 L ∧ Keep h0 h [] ∧ n0 ≤ sa ∧ h0.size ≤ sa ∧ n0 ≤ ta ∧ h0.size ≤ ta ∧ (Exa Z h sa "java/lang/String") ∧ (Fld Z h sa "java/lang/String" "value" "[B" (.ref ta)) ∧ (Fld Z h sa "java/lang/String" "coder" "B" (.int 0)) ∧ (Arv Z h ta kt .byte (1 : Int32) [(.int (nar .byte (ch.toInt8.toInt32)))] (.int (0 : Int32)))
theorem ef_vof (m : MethodId) (x0 : Int32) : entryFrame m #[(.int x0)] 1 = mkF m 0 #[.val (.int x0)] [] := by first | (simp [entryFrame, mkF, argsToLocals, Value.category]; done) | rfl
set_option maxRecDepth 65536 in
set_option maxHeartbeats 40000000 in
theorem rm_vof (l : Launch) (Z : State) (a0 : Array Value) (hw : ∀ d ∈ tables_1, d.before a0 Z = true) (ws : List Jvm.Cond) (ch : Int32) (G1 : Int32) (h0 : Heap) (n0 : Nat) (Z0 : n0 ≤ h0.size) (hch : ¬ ((255 : Int32) < ch)) (CS : Sta Z Z.heap "java/lang/String" "COMPACT_STRINGS" "Z" (.int G1)) (CSn : ¬ (G1 = (0 : Int32))) (O0 : Old Z n0 h0) :
    MetFree l (⟨"java/lang/String", "valueOf", "(C)Ljava/lang/String;"⟩ : MethodName) (head1 (Jvm.Cond.code (⟨"java/lang/String", "valueOf", "(C)Ljava/lang/String;"⟩ : MethodName) jdk_42_method_139_code 1 (some (.object "java/lang/String")) :: ws) ({ frames := 2, cells := 2, slots := 5, locals := 27 } : Room)) (fun a U => a = #[(.int ch)] ∧ Z.Warmed39 U.vm ∧ U.heap = h0) (fun _ _ _ _ _ => True) (fun _ U o U' => ∃ v L, o = .returned v ∧ Q_vof Z ch G1 h0 n0 v U'.heap L ∧ FrameEnd U o U' L ({ frames := 2, cells := 2, slots := 5, locals := 27 } : Room).cells ({ frames := 2, cells := 2, slots := 5, locals := 27 } : Room).slots) := by
  refine MetFree.of_bodySF (plainFor_of_name pn_java_lang_String) hisR ?_
  intro p e s m args below meth c s₁ Bd hml0 hP hK
  obtain ⟨rfl, hZ, hh⟩ := hP
  have hx := Bd.exec
  have hby := Bd.bytes
  have hml : c.maxLocals = 1 := hml0
  have hown : s.vm.findClass "java/lang/String" = some m.cls := findClass_of_methodNamed Bd.named
  have hnm := (name_of_methodNamed Bd.named Bd.method).1
  have X0 : Stand p l e ({ frames := 2, cells := 2, slots := 5, locals := 27 } : Room) s m #[(.int ch)] below meth c s₁ [] 0 0 := Stand.of_body Bd
  have e0 : s₁.heap = h0 := by rw [← hh, Bd.state]; rfl
  have N0 := Fr.nil n0
  refine go_st (fun t k => castTop (ef_vof m ch) k) ?_
  show Go _ _ _ _ (s₁.setTop (mkF m 0 #[iv ch] []))
  obtain ⟨T1, X1, e1, st1⟩ := getS2 X0 hx hZ hown (host := "") (Or.inl (w22 hw)) Via.refl e0 (Sta.ext O0.2 CS) (g := (mkF m 0 #[iv ch] [])) rfl (hb hby d34_0)
  refine go_st (fun t k => st1 t k) ?_
  show Go _ _ _ _ (T1.setTop (mkF m 3 #[iv ch] [(.int G1)]))
  refine go_st (fun t k => XS.ifNo X1.here hx rfl (hb hby d34_3) rfl ((if0 _ _).trans (feq (CSn : ¬ (G1 = (0 : Int32)))).1) k) ?_
  show Go _ _ _ _ (T1.setTop (mkF m 6 #[iv ch] []))
  refine go_st (fun t k => XS.iloadN X1.here hx rfl (hb hby d34_6) rfl k) ?_
  show Go _ _ _ _ (T1.setTop (mkF m 7 #[iv ch] [(.int ch)]))
  obtain ⟨_, _, ⟨T2, L2, kk2, nn2⟩, -, X2, ⟨Lc2, hQ2, lq2, yq2, zq2⟩, st2⟩ := Jvm.LawKit.callS X1 hx (y := (⟨"java/lang/StringLatin1", "canEncode", "(C)Z"⟩ : MethodName)) hown (mvT hZ (w120 hw)) (mvT hZ (w121 hw)) (mvT hZ (w122 hw)) (mvT hZ (w123 hw)) (by decide) (backOf (W := 0) (rm_can l Z a0 hw [] ch h0 n0 (Nat.le_trans Z0 (Nat.le_refl _)) hch) hZ (w123 hw) (w122 hw) (by decide) (by decide)) (g := (mkF m 7 #[iv ch] [(.int ch)])) rfl (by rw [hml]; rfl) (argsL := [(.int ch)]) (rest := []) (lenOf pd_23 rfl) rfl (by show 2 * 0 + _ ≤ _; exact Nat.le_of_eq rfl) (hb hby d34_7) (fun _ _ => ⟨rfl, e1, (by decide : 0 + 0 ≤ _), (by decide : 0 + 0 ≤ _)⟩)
  dsimp only [Pt.U, Pt.locs, Pt.cells, Pt.slots] at X2 lq2 yq2 zq2 st2 hQ2
  obtain rfl : kk2 = 0 := yq2
  obtain rfl : nn2 = 0 := zq2
  obtain ⟨h2, e2⟩ : ∃ z, T2.heap = z := ⟨_, rfl⟩
  rw [e2] at hQ2
  obtain ⟨rfl, N2q, he2⟩ := hQ2
  have N2 : Fr n0 L2 := by rw [lq2]; exact Fr.app N0 N2q
  rw [he2] at e2
  refine go_st st2 ?_
  show Go _ _ _ _ (T2.setTop (mkF m 10 #[iv ch] [(.int 1)]))
  refine go_st (fun t k => XS.ifNo X2.here hx rfl (hb hby d34_10) rfl ((if0 _ _).trans (feq ((by decide) : ¬ ((1 : Int32) = (0 : Int32)))).1) k) ?_
  show Go _ _ _ _ (T2.setTop (mkF m 13 #[iv ch] []))
  obtain ⟨T3, h3, X3, e3, E3, A3, D3, -, st3⟩ := newO X2 hx hZ hown (w124 hw) (w10 hw) (w11 hw) e2 (g := (mkF m 13 #[iv ch] [])) rfl (hb hby d34_13) (by decide) (by decide)
  obtain ⟨b3, gq3⟩ : ∃ z, z = h0.size := ⟨_, rfl⟩
  rw [← gq3] at A3 D3 st3
  have f4 : Fld Z h3 b3 "java/lang/String" "coder" "B" (.int 0) := D3 (Or.inr (w35 hw)) (ty := .byte) (by decide)
  have f5 : Fld Z h3 b3 "java/lang/String" "value" "[B" .null := D3 (Or.inr (w37 hw)) (ty := (.array .byte)) (by decide)
  refine go_st (fun t k => st3 t k) ?_
  show Go _ _ _ _ (T3.setTop (mkF m 16 #[iv ch] [(.ref b3)]))
  refine go_st (fun t k => XS.dup X3.here hx rfl (hb hby d34_16) rfl rfl k) ?_
  show Go _ _ _ _ (T3.setTop (mkF m 17 #[iv ch] [(.ref b3), (.ref b3)]))
  refine go_st (fun t k => XS.iloadN X3.here hx rfl (hb hby d34_17) rfl k) ?_
  show Go _ _ _ _ (T3.setTop (mkF m 18 #[iv ch] [(.int ch), (.ref b3), (.ref b3)]))
  obtain ⟨_, _, ⟨T6, L6, kk6, nn6⟩, -, X6, ⟨Lc6, hQ6, lq6, yq6, zq6⟩, st6⟩ := Jvm.LawKit.callS X3 hx (y := (⟨"java/lang/StringLatin1", "toBytes", "(C)[B"⟩ : MethodName)) hown (mvT hZ (w125 hw)) (mvT hZ (w126 hw)) (mvT hZ (w122 hw)) (mvT hZ (w127 hw)) (by decide) (backOf (W := 2) (rm_tob l Z a0 hw [] ch h3 n0 (Nat.le_trans Z0 E3.1) hch) hZ (w127 hw) (w122 hw) (by decide) (by decide)) (g := (mkF m 18 #[iv ch] [(.int ch), (.ref b3), (.ref b3)])) rfl (by rw [hml]; rfl) (argsL := [(.int ch)]) (rest := [(.ref b3), (.ref b3)]) (lenOf pd_24 rfl) rfl (by show 2 * 0 + _ ≤ _; exact Nat.le_of_eq rfl) (hb hby d34_18) (fun _ _ => ⟨rfl, e3, (by decide : 1 + 1 ≤ _), (by decide : 4 + 1 ≤ _)⟩)
  dsimp only [Pt.U, Pt.locs, Pt.cells, Pt.slots] at X6 lq6 yq6 zq6 st6 hQ6
  obtain rfl : kk6 = 2 := yq6
  obtain rfl : nn6 = 5 := zq6
  obtain ⟨h6, e6⟩ : ∃ z, T6.heap = z := ⟨_, rfl⟩
  rw [e6] at hQ6
  obtain ⟨ta_6, kt_6, rfl, N6q, K6, gf6_0, lf6_0, p6_1⟩ := hQ6
  have N6 : Fr n0 L6 := by rw [lq6]; exact Fr.app N2 N6q
  refine go_st st6 ?_
  show Go _ _ _ _ (T6.setTop (mkF m 21 #[iv ch] [(.ref ta_6), (.ref b3), (.ref b3)]))
  refine go_st (fun t k => XS.iconst X6.here hx rfl (hb hby d34_21) k) ?_
  show Go _ _ _ _ (T6.setTop (mkF m 22 #[iv ch] [(.int 0), (.ref ta_6), (.ref b3), (.ref b3)]))
  have f7 : Exa Z h6 b3 "java/lang/String" := (A3.keep K6)
  have f8 : Fld Z h6 b3 "java/lang/String" "value" "[B" .null := (f5.keep K6 nin0)
  have f9 : Fld Z h6 b3 "java/lang/String" "coder" "B" (.int 0) := (f4.keep K6 nin0)
  have g_b3 : n0 ≤ b3 := Nat.le_trans (Nat.le_trans Z0 (Nat.le_refl _)) (Nat.le_of_eq gq3.symm)
  have sz10 : h0.size ≤ h6.size := (Nat.le_trans E3.1 K6.1)
  obtain ⟨_, _, ⟨T11, L11, kk11, nn11⟩, -, X11, ⟨Lc11, hQ11, lq11, yq11, zq11⟩, st11⟩ := X6.specialBack hx (y := (⟨"java/lang/String", "<init>", "([BB)V"⟩ : MethodName)) rfl hown (mvT hZ (w128 hw)) (mvT hZ (w129 hw)) (mvT hZ (w130 hw)) (by decide) (backOf (W := 1) (rm_strbb l Z a0 hw [] b3 ta_6 h6 n0 (Nat.le_trans Z0 sz10) f7 f8 f9 g_b3) hZ (w130 hw) (w11 hw) (by decide) (by decide)) (g := (mkF m 22 #[iv ch] [(.int 0), (.ref ta_6), (.ref b3), (.ref b3)])) rfl (by rw [hml]; rfl) (Steps.refl _) (a := b3) (argsL := [(.ref ta_6), (.int 0)]) (rest := [(.ref b3)]) (lenOf pd_25 rfl) rfl (by show 2 * 0 + _ ≤ _; exact Nat.le_of_eq rfl) (hb hby d34_22) (fun _ _ => ⟨rfl, e6, (by decide : 2 + 0 ≤ _), (by decide : 5 + 0 ≤ _)⟩)
  dsimp only [Pt.U, Pt.locs, Pt.cells, Pt.slots] at X11 lq11 yq11 zq11 st11 hQ11
  obtain rfl : kk11 = 2 := yq11
  obtain rfl : nn11 = 5 := zq11
  obtain ⟨h11, e11⟩ : ∃ z, T11.heap = z := ⟨_, rfl⟩
  rw [e11] at hQ11
  obtain ⟨rfl, N11q, K11, p11_0, p11_1, p11_2⟩ := hQ11
  have N11 : Fr n0 L11 := by rw [lq11]; exact Fr.app N6 N11q
  refine go_tr st11 ?_
  show Go _ _ _ _ (T11.setTop (mkF m 25 #[iv ch] [(.ref b3)]))
  have nq12 : b3 ≠ ta_6 := Nat.ne_of_lt (Nat.lt_of_lt_of_le (Nat.lt_of_lt_of_le A3.lt (Nat.le_refl _)) lf6_0)
  have f13 : Arv Z h11 ta_6 kt_6 .byte (1 : Int32) [(.int (nar .byte (ch.toInt8.toInt32)))] (.int (0 : Int32)) := (p6_1.keep K11 (ninS (Ne.symm nq12) nin0))
  have ke14 : Keep h0 h3 [] := (Keep.ext (Keep.refl h0 []) E3)
  have ke15 : Keep h0 h6 [] := (Keep.trans ke14 K6 all0)
  have ke16 : Keep h0 h11 [] := (Keep.trans ke15 K11 (allS (Or.inr (Nat.le_of_eq gq3.symm)) all0))
  obtain ⟨fs, hr, hrun, hended, hW, hsame⟩ := X11.leave (v := some (.ref b3)) (fun h => by rw [Bd.returns] at h; cases h)
  refine ⟨_, _, ?_, hrun, hended, _, _, rfl, ?_, ⟨_, rfl⟩, hW, hsame.mono (by decide) (by decide)⟩
  · exact retOut X11 hx Bd.returns rfl (Or.inr (Or.inr (Or.inr (Or.inr ⟨rfl, rfl, rfl⟩)))) (hb hby d34_25) hr
  · show Q_vof _ _ _ _ _ _ T11.heap _
    rw [e11]
    exact ⟨b3, ta_6, kt_6, rfl, N11, ke16, g_b3, (Nat.le_of_eq gq3.symm), gf6_0, (Nat.le_trans E3.1 lf6_0), p11_0, p11_1, p11_2, f13⟩
def Q_slength4 (Z : State) (xs : Addr) (xt : Addr) (kx : ClassId) (y0 : Int32) (y1 : Int32) (y2 : Int32) (y3 : Int32) (G1 : Int32) (h0 : Heap) (n0 : Nat) (vR : Option Value) (h : Heap) (L : List Loc) : Prop := vR = some (.int 4) ∧ Fr n0 L ∧ h = h0
theorem ef_slength4 (m : MethodId) (x0 : Addr) : entryFrame m #[(.ref x0)] 1 = mkF m 0 #[.val (.ref x0)] [] := by first | (simp [entryFrame, mkF, argsToLocals, Value.category]; done) | rfl
set_option maxRecDepth 65536 in
set_option maxHeartbeats 40000000 in
theorem rm_slength4 (l : Launch) (Z : State) (a0 : Array Value) (hw : ∀ d ∈ tables_1, d.before a0 Z = true) (ws : List Jvm.Cond) (xs : Addr) (xt : Addr) (kx : ClassId) (y0 : Int32) (y1 : Int32) (y2 : Int32) (y3 : Int32) (G1 : Int32) (h0 : Heap) (n0 : Nat) (Z0 : n0 ≤ h0.size) (H0 : Exa Z h0 xs "java/lang/String") (H1 : Fld Z h0 xs "java/lang/String" "value" "[B" (.ref xt)) (H2 : Fld Z h0 xs "java/lang/String" "coder" "B" (.int 0)) (H3 : Arv Z h0 xt kx .byte (4 : Int32) [(.int y0), (.int y1), (.int y2), (.int y3)] (.int (0 : Int32))) (CS : Sta Z Z.heap "java/lang/String" "COMPACT_STRINGS" "Z" (.int G1)) (CSn : ¬ (G1 = (0 : Int32))) (O0 : Old Z n0 h0) :
    MetFree l (⟨"java/lang/String", "length", "()I"⟩ : MethodName) (head1 (Jvm.Cond.code (⟨"java/lang/String", "length", "()I"⟩ : MethodName) jdk_42_method_54_code 1 (some .int) :: ws) ({ frames := 1, cells := 0, slots := 0, locals := 13 } : Room)) (fun a U => a = #[(.ref xs)] ∧ Z.Warmed39 U.vm ∧ U.heap = h0) (fun _ _ _ _ _ => True) (fun _ U o U' => ∃ v L, o = .returned v ∧ Q_slength4 Z xs xt kx y0 y1 y2 y3 G1 h0 n0 v U'.heap L ∧ FrameEnd U o U' L ({ frames := 1, cells := 0, slots := 0, locals := 13 } : Room).cells ({ frames := 1, cells := 0, slots := 0, locals := 13 } : Room).slots) := by
  refine MetFree.of_bodySF (plainFor_of_name pn_java_lang_String) hisR ?_
  intro p e s m args below meth c s₁ Bd hml0 hP hK
  obtain ⟨rfl, hZ, hh⟩ := hP
  have hx := Bd.exec
  have hby := Bd.bytes
  have hml : c.maxLocals = 1 := hml0
  have hown : s.vm.findClass "java/lang/String" = some m.cls := findClass_of_methodNamed Bd.named
  have hnm := (name_of_methodNamed Bd.named Bd.method).1
  have X0 : Stand p l e ({ frames := 1, cells := 0, slots := 0, locals := 13 } : Room) s m #[(.ref xs)] below meth c s₁ [] 0 0 := Stand.of_body Bd
  have e0 : s₁.heap = h0 := by rw [← hh, Bd.state]; rfl
  have N0 := Fr.nil n0
  refine go_st (fun t k => castTop (ef_slength4 m xs) k) ?_
  show Go _ _ _ _ (s₁.setTop (mkF m 0 #[rv xs] []))
  refine go_st (fun t k => XS.aloadN X0.here hx rfl (hb hby d17_0) rfl rfl k) ?_
  show Go _ _ _ _ (s₁.setTop (mkF m 1 #[rv xs] [(.ref xs)]))
  obtain ⟨T1, X1, e1, st1⟩ := getF X0 hx hZ hown (host := "") (Or.inl (w36 hw)) Via.refl e0 H1 (g := (mkF m 1 #[rv xs] [(.ref xs)])) rfl rfl (hb hby d17_1)
  refine go_st (fun t k => st1 t k) ?_
  show Go _ _ _ _ (T1.setTop (mkF m 4 #[rv xs] [(.ref xt)]))
  obtain ⟨zc2, zA2, zq2, zS2, zN2, zH2, zG2⟩ := id H3
  refine go_st (fun t k => X1.arraylength hx (by rw [e1]; exact zA2.1) (State.isArrayOf_alike hZ.alike zA2.2.1) (g := (mkF m 4 #[rv xs] [(.ref xt)])) rfl rfl (hb hby d17_4) t k) ?_
  rw [len_of zS2 zN2]
  show Go _ _ _ _ (T1.setTop (mkF m 5 #[rv xs] [(.int 4)]))
  refine go_st (fun t k => XS.aloadN X1.here hx rfl (hb hby d17_5) rfl rfl k) ?_
  show Go _ _ _ _ (T1.setTop (mkF m 6 #[rv xs] [(.ref xs), (.int 4)]))
  obtain ⟨cq3, kq3, q3a, q3b, q3c⟩ := isOf hZ e1 H0
  obtain ⟨_, _, ⟨T3, L3, kk3, nn3⟩, -, X3, ⟨Lc3, hQ3, lq3, yq3, zq3⟩, st3⟩ := X1.virtualBack hx (y := (⟨"java/lang/String", "coder", "()B"⟩ : MethodName)) (z := (⟨"java/lang/String", "coder", "()B"⟩ : MethodName)) hown (mvT hZ (w164 hw)) (mvT hZ (w165 hw)) (nf_same (y := (⟨"java/lang/String", "coder", "()B"⟩ : MethodName)) (y' := (⟨"java/lang/String", "equals", "(Ljava/lang/Object;)Z"⟩ : MethodName)) (a0 := #[]) rfl (mvT hZ (w75 hw)) (notFace_of_selects (args := #[]) (mvT hZ (w76 hw)))) (mvT hZ (w167 hw)) (mvT hZ (w166 hw)) (by decide) (backOf (W := 1) (rm_cod l Z a0 hw [] xs G1 h0 n0 (Nat.le_trans Z0 (Nat.le_refl _)) H2 CS CSn O0) hZ (w168 hw) (w11 hw) (by decide) (by decide)) q3a q3c (g := (mkF m 6 #[rv xs] [(.ref xs), (.int 4)])) rfl (by rw [hml]; rfl) (Steps.refl _) (argsL := []) (rest := [(.int 4)]) (lenOf pd_4 rfl) rfl (by show 2 * 0 + _ ≤ _; exact Nat.le_of_eq rfl) (hb hby d17_6) (fun _ _ => ⟨rfl, e1, (by decide : 0 + 0 ≤ _), (by decide : 0 + 0 ≤ _)⟩)
  dsimp only [Pt.U, Pt.locs, Pt.cells, Pt.slots] at X3 lq3 yq3 zq3 st3 hQ3
  obtain rfl : kk3 = 0 := yq3
  obtain rfl : nn3 = 0 := zq3
  obtain ⟨h3, e3⟩ : ∃ z, T3.heap = z := ⟨_, rfl⟩
  rw [e3] at hQ3
  obtain ⟨rfl, N3q, he3⟩ := hQ3
  have N3 : Fr n0 L3 := by rw [lq3]; exact Fr.app N0 N3q
  rw [he3] at e3
  refine go_tr st3 ?_
  show Go _ _ _ _ (T3.setTop (mkF m 9 #[rv xs] [(.int 0), (.int 4)]))
  refine go_st (fun t k => XS.ishr X3.here hx rfl (hb hby d17_9) rfl k) ?_
  rw [show ((4 : Int32) >>> ((0 : Int32) &&& 31)) = (4 : Int32) from by decide]
  show Go _ _ _ _ (T3.setTop (mkF m 10 #[rv xs] [(.int 4)]))
  obtain ⟨fs, hr, hrun, hended, hW, hsame⟩ := X3.leave (v := some (.int 4)) (fun h => by rw [Bd.returns] at h; cases h)
  refine ⟨_, _, ?_, hrun, hended, _, _, rfl, ?_, ⟨_, rfl⟩, hW, hsame.mono (by decide) (by decide)⟩
  · exact retI X3 hx Bd.returns (hb hby d17_10) hr
  · show Q_slength4 _ _ _ _ _ _ _ _ _ _ _ _ T3.heap _
    rw [e3]
    exact ⟨rfl, N3, rfl⟩
def Q_sisl (Z : State) (xs : Addr) (G1 : Int32) (h0 : Heap) (n0 : Nat) (vR : Option Value) (h : Heap) (L : List Loc) : Prop := vR = some (.int 1) ∧ Fr n0 L ∧ h = h0
theorem ef_sisl (m : MethodId) (x0 : Addr) : entryFrame m #[(.ref x0)] 1 = mkF m 0 #[.val (.ref x0)] [] := by first | (simp [entryFrame, mkF, argsToLocals, Value.category]; done) | rfl
set_option maxRecDepth 65536 in
set_option maxHeartbeats 40000000 in
theorem rm_sisl (l : Launch) (Z : State) (a0 : Array Value) (hw : ∀ d ∈ tables_1, d.before a0 Z = true) (ws : List Jvm.Cond) (xs : Addr) (G1 : Int32) (h0 : Heap) (n0 : Nat) (Z0 : n0 ≤ h0.size) (H0 : Fld Z h0 xs "java/lang/String" "coder" "B" (.int 0)) (CS : Sta Z Z.heap "java/lang/String" "COMPACT_STRINGS" "Z" (.int G1)) (CSn : ¬ (G1 = (0 : Int32))) (O0 : Old Z n0 h0) :
    MetFree l (⟨"java/lang/String", "isLatin1", "()Z"⟩ : MethodName) (head1 (Jvm.Cond.code (⟨"java/lang/String", "isLatin1", "()Z"⟩ : MethodName) jdk_42_method_154_code 1 (some .boolean) :: ws) ({ frames := 0, cells := 0, slots := 0, locals := 0 } : Room)) (fun a U => a = #[(.ref xs)] ∧ Z.Warmed39 U.vm ∧ U.heap = h0) (fun _ _ _ _ _ => True) (fun _ U o U' => ∃ v L, o = .returned v ∧ Q_sisl Z xs G1 h0 n0 v U'.heap L ∧ FrameEnd U o U' L ({ frames := 0, cells := 0, slots := 0, locals := 0 } : Room).cells ({ frames := 0, cells := 0, slots := 0, locals := 0 } : Room).slots) := by
  refine MetFree.of_bodySF (plainFor_of_name pn_java_lang_String) hisR ?_
  intro p e s m args below meth c s₁ Bd hml0 hP hK
  obtain ⟨rfl, hZ, hh⟩ := hP
  have hx := Bd.exec
  have hby := Bd.bytes
  have hml : c.maxLocals = 1 := hml0
  have hown : s.vm.findClass "java/lang/String" = some m.cls := findClass_of_methodNamed Bd.named
  have hnm := (name_of_methodNamed Bd.named Bd.method).1
  have X0 : Stand p l e ({ frames := 0, cells := 0, slots := 0, locals := 0 } : Room) s m #[(.ref xs)] below meth c s₁ [] 0 0 := Stand.of_body Bd
  have e0 : s₁.heap = h0 := by rw [← hh, Bd.state]; rfl
  have N0 := Fr.nil n0
  refine go_st (fun t k => castTop (ef_sisl m xs) k) ?_
  show Go _ _ _ _ (s₁.setTop (mkF m 0 #[rv xs] []))
  obtain ⟨T1, X1, e1, st1⟩ := getS2 X0 hx hZ hown (host := "") (Or.inl (w22 hw)) Via.refl e0 (Sta.ext O0.2 CS) (g := (mkF m 0 #[rv xs] [])) rfl (hb hby d39_0)
  refine go_st (fun t k => st1 t k) ?_
  show Go _ _ _ _ (T1.setTop (mkF m 3 #[rv xs] [(.int G1)]))
  refine go_st (fun t k => XS.ifNo X1.here hx rfl (hb hby d39_3) rfl ((if0 _ _).trans (feq (CSn : ¬ (G1 = (0 : Int32)))).1) k) ?_
  show Go _ _ _ _ (T1.setTop (mkF m 6 #[rv xs] []))
  refine go_st (fun t k => XS.aloadN X1.here hx rfl (hb hby d39_6) rfl rfl k) ?_
  show Go _ _ _ _ (T1.setTop (mkF m 7 #[rv xs] [(.ref xs)]))
  obtain ⟨T2, X2, e2, st2⟩ := getF X1 hx hZ hown (host := "") (Or.inl (w34 hw)) Via.refl e1 H0 (g := (mkF m 7 #[rv xs] [(.ref xs)])) rfl rfl (hb hby d39_7)
  refine go_st (fun t k => st2 t k) ?_
  show Go _ _ _ _ (T2.setTop (mkF m 10 #[rv xs] [(.int 0)]))
  refine go_st (fun t k => XS.ifNo X2.here hx rfl (hb hby d39_10) rfl ((if0 _ _).trans (teq ((by decide) : (0 : Int32) = (0 : Int32))).2) k) ?_
  show Go _ _ _ _ (T2.setTop (mkF m 13 #[rv xs] []))
  refine go_st (fun t k => XS.iconst X2.here hx rfl (hb hby d39_13) k) ?_
  show Go _ _ _ _ (T2.setTop (mkF m 14 #[rv xs] [(.int 1)]))
  refine go_st (fun t k => XS.goto X2.here hx rfl (pc0 := 14) (pc' := 18) rfl (hb hby d39_14) (by decide) (by decide) k) ?_
  show Go _ _ _ _ (T2.setTop (mkF m 18 #[rv xs] [(.int 1)]))
  obtain ⟨fs, hr, hrun, hended, hW, hsame⟩ := X2.leave (v := some (.int 1)) (fun h => by rw [Bd.returns] at h; cases h)
  refine ⟨_, _, ?_, hrun, hended, _, _, rfl, ?_, ⟨_, rfl⟩, hW, hsame.mono (by decide) (by decide)⟩
  · exact retN X2 hx (t := .boolean) Bd.returns (by simp) (hb hby d39_18) hr
  · show Q_sisl _ _ _ _ _ _ T2.heap _
    rw [e2]
    exact ⟨rfl, N0, rfl⟩
def Q_pci0_4 (Z : State) (fm : Value) (h0 : Heap) (n0 : Nat) (vR : Option Value) (h : Heap) (L : List Loc) : Prop := vR = some (.int 0) ∧ Fr n0 L ∧ h = h0
theorem ef_pci0_4 (m : MethodId) (x0 : Int32) (x1 : Int32) (x2 : Value) (hx2 : x2.isRef = true) : entryFrame m #[(.int x0), (.int x1), x2] 3 = mkF m 0 #[.val (.int x0), .val (.int x1), .val x2] [] := by rcases ref_cases hx2 with rfl | ⟨y2, rfl⟩ <;> simp [entryFrame, mkF, argsToLocals, Value.category]
set_option maxRecDepth 65536 in
set_option maxHeartbeats 40000000 in
theorem rm_pci0_4 (l : Launch) (Z : State) (a0 : Array Value) (hw : ∀ d ∈ tables_1, d.before a0 Z = true) (ws : List Jvm.Cond) (fm : Value) (h0 : Heap) (n0 : Nat) (Z0 : n0 ≤ h0.size) (hfm : fm.isRef = true) :
    MetFree l (⟨"jdk/internal/util/Preconditions", "checkIndex", "(IILjava/util/function/BiFunction;)I"⟩ : MethodName) (head1 (Jvm.Cond.code (⟨"jdk/internal/util/Preconditions", "checkIndex", "(IILjava/util/function/BiFunction;)I"⟩ : MethodName) jdk_41_method_11_code 3 (some .int) :: ws) ({ frames := 0, cells := 0, slots := 0, locals := 0 } : Room)) (fun a U => a = #[(.int 0), (.int 4), fm] ∧ Z.Warmed39 U.vm ∧ U.heap = h0) (fun _ _ _ _ _ => True) (fun _ U o U' => ∃ v L, o = .returned v ∧ Q_pci0_4 Z fm h0 n0 v U'.heap L ∧ FrameEnd U o U' L ({ frames := 0, cells := 0, slots := 0, locals := 0 } : Room).cells ({ frames := 0, cells := 0, slots := 0, locals := 0 } : Room).slots) := by
  refine MetFree.of_bodySF (plainFor_of_name pn_jdk_internal_util_Preconditions) hisR ?_
  intro p e s m args below meth c s₁ Bd hml0 hP hK
  obtain ⟨rfl, hZ, hh⟩ := hP
  have hx := Bd.exec
  have hby := Bd.bytes
  have hml : c.maxLocals = 3 := hml0
  have hown : s.vm.findClass "jdk/internal/util/Preconditions" = some m.cls := findClass_of_methodNamed Bd.named
  have hnm := (name_of_methodNamed Bd.named Bd.method).1
  have X0 : Stand p l e ({ frames := 0, cells := 0, slots := 0, locals := 0 } : Room) s m #[(.int 0), (.int 4), fm] below meth c s₁ [] 0 0 := Stand.of_body Bd
  have e0 : s₁.heap = h0 := by rw [← hh, Bd.state]; rfl
  have N0 := Fr.nil n0
  refine go_st (fun t k => castTop (ef_pci0_4 m (0 : Int32) (4 : Int32) fm hfm) k) ?_
  show Go _ _ _ _ (s₁.setTop (mkF m 0 #[iv 0, iv 4, .val fm] []))
  refine go_st (fun t k => XS.iloadN X0.here hx rfl (hb hby d42_0) rfl k) ?_
  show Go _ _ _ _ (s₁.setTop (mkF m 1 #[iv 0, iv 4, .val fm] [(.int 0)]))
  refine go_st (fun t k => XS.ifNo X0.here hx rfl (hb hby d42_1) rfl ((if0 _ _).trans (flt ((by decide) : ¬ ((0 : Int32) < (0 : Int32)))).1) k) ?_
  show Go _ _ _ _ (s₁.setTop (mkF m 4 #[iv 0, iv 4, .val fm] []))
  refine go_st (fun t k => XS.iloadN X0.here hx rfl (hb hby d42_4) rfl k) ?_
  show Go _ _ _ _ (s₁.setTop (mkF m 5 #[iv 0, iv 4, .val fm] [(.int 0)]))
  refine go_st (fun t k => XS.iloadN X0.here hx rfl (hb hby d42_5) rfl k) ?_
  show Go _ _ _ _ (s₁.setTop (mkF m 6 #[iv 0, iv 4, .val fm] [(.int 4), (.int 0)]))
  refine go_st (fun t k => XS.icmpYes X0.here hx rfl (pc0 := 6) (pc' := 16) rfl (hb hby d42_6) rfl (tlt ((by decide) : (0 : Int32) < (4 : Int32))).1 (by decide) (by decide) k) ?_
  show Go _ _ _ _ (s₁.setTop (mkF m 16 #[iv 0, iv 4, .val fm] []))
  refine go_st (fun t k => XS.iloadN X0.here hx rfl (hb hby d42_16) rfl k) ?_
  show Go _ _ _ _ (s₁.setTop (mkF m 17 #[iv 0, iv 4, .val fm] [(.int 0)]))
  obtain ⟨fs, hr, hrun, hended, hW, hsame⟩ := X0.leave (v := some (.int 0)) (fun h => by rw [Bd.returns] at h; cases h)
  refine ⟨_, _, ?_, hrun, hended, _, _, rfl, ?_, ⟨_, rfl⟩, hW, hsame.mono (by decide) (by decide)⟩
  · exact retI X0 hx Bd.returns (hb hby d42_17) hr
  · show Q_pci0_4 _ _ _ _ _ s₁.heap _
    rw [e0]
    exact ⟨rfl, N0, rfl⟩
def Q_sci0_4 (Z : State) (fm : Value) (h0 : Heap) (n0 : Nat) (vR : Option Value) (h : Heap) (L : List Loc) : Prop := vR = none ∧ Fr n0 L ∧ h = h0
theorem ef_sci0_4 (m : MethodId) (x0 : Int32) (x1 : Int32) : entryFrame m #[(.int x0), (.int x1)] 2 = mkF m 0 #[.val (.int x0), .val (.int x1)] [] := by first | (simp [entryFrame, mkF, argsToLocals, Value.category]; done) | rfl
set_option maxRecDepth 65536 in
set_option maxHeartbeats 40000000 in
theorem rm_sci0_4 (l : Launch) (Z : State) (a0 : Array Value) (hw : ∀ d ∈ tables_1, d.before a0 Z = true) (ws : List Jvm.Cond) (fm : Value) (h0 : Heap) (n0 : Nat) (Z0 : n0 ≤ h0.size) (hfm : fm.isRef = true) (FS : Sta Z Z.heap "jdk/internal/util/Preconditions" "SIOOBE_FORMATTER" "Ljava/util/function/BiFunction;" fm) (O0 : Old Z n0 h0) :
    MetFree l (⟨"java/lang/String", "checkIndex", "(II)V"⟩ : MethodName) (head1 (Jvm.Cond.code (⟨"java/lang/String", "checkIndex", "(II)V"⟩ : MethodName) jdk_42_method_155_code 2 none :: ws) ({ frames := 1, cells := 0, slots := 0, locals := 14 } : Room)) (fun a U => a = #[(.int 0), (.int 4)] ∧ Z.Warmed39 U.vm ∧ U.heap = h0) (fun _ _ _ _ _ => True) (fun _ U o U' => ∃ v L, o = .returned v ∧ Q_sci0_4 Z fm h0 n0 v U'.heap L ∧ FrameEnd U o U' L ({ frames := 1, cells := 0, slots := 0, locals := 14 } : Room).cells ({ frames := 1, cells := 0, slots := 0, locals := 14 } : Room).slots) := by
  refine MetFree.of_bodySF (plainFor_of_name pn_java_lang_String) hisR ?_
  intro p e s m args below meth c s₁ Bd hml0 hP hK
  obtain ⟨rfl, hZ, hh⟩ := hP
  have hx := Bd.exec
  have hby := Bd.bytes
  have hml : c.maxLocals = 2 := hml0
  have hown : s.vm.findClass "java/lang/String" = some m.cls := findClass_of_methodNamed Bd.named
  have hnm := (name_of_methodNamed Bd.named Bd.method).1
  have X0 : Stand p l e ({ frames := 1, cells := 0, slots := 0, locals := 14 } : Room) s m #[(.int 0), (.int 4)] below meth c s₁ [] 0 0 := Stand.of_body Bd
  have e0 : s₁.heap = h0 := by rw [← hh, Bd.state]; rfl
  have N0 := Fr.nil n0
  refine go_st (fun t k => castTop (ef_sci0_4 m (0 : Int32) (4 : Int32)) k) ?_
  show Go _ _ _ _ (s₁.setTop (mkF m 0 #[iv 0, iv 4] []))
  refine go_st (fun t k => XS.iloadN X0.here hx rfl (hb hby d41_0) rfl k) ?_
  show Go _ _ _ _ (s₁.setTop (mkF m 1 #[iv 0, iv 4] [(.int 0)]))
  refine go_st (fun t k => XS.iloadN X0.here hx rfl (hb hby d41_1) rfl k) ?_
  show Go _ _ _ _ (s₁.setTop (mkF m 2 #[iv 0, iv 4] [(.int 4), (.int 0)]))
  obtain ⟨T1, X1, e1, st1⟩ := getS2 X0 hx hZ hown (host := "") (Or.inl (w259 hw)) Via.refl e0 (Sta.ext O0.2 FS) (g := (mkF m 2 #[iv 0, iv 4] [(.int 4), (.int 0)])) rfl (hb hby d41_2)
  refine go_st (fun t k => st1 t k) ?_
  show Go _ _ _ _ (T1.setTop (mkF m 5 #[iv 0, iv 4] [fm, (.int 4), (.int 0)]))
  obtain ⟨_, _, ⟨T2, L2, kk2, nn2⟩, -, X2, ⟨Lc2, hQ2, lq2, yq2, zq2⟩, st2⟩ := Jvm.LawKit.callS X1 hx (y := (⟨"jdk/internal/util/Preconditions", "checkIndex", "(IILjava/util/function/BiFunction;)I"⟩ : MethodName)) hown (mvT hZ (w261 hw)) (mvT hZ (w262 hw)) (mvT hZ (w260 hw)) (mvT hZ (w263 hw)) (by decide) (backOf (W := 0) (rm_pci0_4 l Z a0 hw [] fm h0 n0 (Nat.le_trans Z0 (Nat.le_refl _)) hfm) hZ (w263 hw) (w260 hw) (by decide) (by decide)) (g := (mkF m 5 #[iv 0, iv 4] [fm, (.int 4), (.int 0)])) rfl (by rw [hml]; rfl) (argsL := [(.int 0), (.int 4), fm]) (rest := []) (lenOf pd_27 rfl) rfl (by show 2 * 0 + _ ≤ _; exact Nat.le_of_eq rfl) (hb hby d41_5) (fun _ _ => ⟨rfl, e1, (by decide : 0 + 0 ≤ _), (by decide : 0 + 0 ≤ _)⟩)
  dsimp only [Pt.U, Pt.locs, Pt.cells, Pt.slots] at X2 lq2 yq2 zq2 st2 hQ2
  obtain rfl : kk2 = 0 := yq2
  obtain rfl : nn2 = 0 := zq2
  obtain ⟨h2, e2⟩ : ∃ z, T2.heap = z := ⟨_, rfl⟩
  rw [e2] at hQ2
  obtain ⟨rfl, N2q, he2⟩ := hQ2
  have N2 : Fr n0 L2 := by rw [lq2]; exact Fr.app N0 N2q
  rw [he2] at e2
  refine go_st st2 ?_
  show Go _ _ _ _ (T2.setTop (mkF m 8 #[iv 0, iv 4] [(.int 0)]))
  refine go_st (fun t k => XS.pop X2.here hx rfl (hb hby d41_8) rfl rfl k) ?_
  show Go _ _ _ _ (T2.setTop (mkF m 9 #[iv 0, iv 4] []))
  obtain ⟨fs, hr, hrun, hended, hW, hsame⟩ := X2.leave (v := none) (fun _ => rfl)
  refine ⟨_, _, ?_, hrun, hended, _, _, rfl, ?_, ⟨_, rfl⟩, hW, hsame.mono (by decide) (by decide)⟩
  · exact X2.returnOut hx Bd.returns (hb hby d41_9) hr
  · show Q_sci0_4 _ _ _ _ _ T2.heap _
    rw [e2]
    exact ⟨rfl, N2, rfl⟩
def Q_lchat4_0 (Z : State) (xt : Addr) (kx : ClassId) (y0 : Int32) (y1 : Int32) (y2 : Int32) (y3 : Int32) (fm : Value) (h0 : Heap) (n0 : Nat) (vR : Option Value) (h : Heap) (L : List Loc) : Prop := ∃ (r : Int32), vR = some (.int (nar .char r)) ∧ Fr n0 L ∧ h = h0 ∧ (r = ((y0 &&& (255 : Int32)).toUInt32.toUInt16.toUInt32.toInt32))
theorem ef_lchat4_0 (m : MethodId) (x0 : Addr) (x1 : Int32) : entryFrame m #[(.ref x0), (.int x1)] 2 = mkF m 0 #[.val (.ref x0), .val (.int x1)] [] := by first | (simp [entryFrame, mkF, argsToLocals, Value.category]; done) | rfl
set_option maxRecDepth 65536 in
set_option maxHeartbeats 40000000 in
theorem rm_lchat4_0 (l : Launch) (Z : State) (a0 : Array Value) (hw : ∀ d ∈ tables_1, d.before a0 Z = true) (ws : List Jvm.Cond) (xt : Addr) (kx : ClassId) (y0 : Int32) (y1 : Int32) (y2 : Int32) (y3 : Int32) (fm : Value) (h0 : Heap) (n0 : Nat) (Z0 : n0 ≤ h0.size) (H0 : Arv Z h0 xt kx .byte (4 : Int32) [(.int y0), (.int y1), (.int y2), (.int y3)] (.int (0 : Int32))) (hfm : fm.isRef = true) (FS : Sta Z Z.heap "jdk/internal/util/Preconditions" "SIOOBE_FORMATTER" "Ljava/util/function/BiFunction;" fm) (O0 : Old Z n0 h0) :
    MetFree l (⟨"java/lang/StringLatin1", "charAt", "([BI)C"⟩ : MethodName) (head1 (Jvm.Cond.code (⟨"java/lang/StringLatin1", "charAt", "([BI)C"⟩ : MethodName) jdk_43_method_2_code 2 (some .char) :: ws) ({ frames := 2, cells := 0, slots := 0, locals := 27 } : Room)) (fun a U => a = #[(.ref xt), (.int 0)] ∧ Z.Warmed39 U.vm ∧ U.heap = h0) (fun _ _ _ _ _ => True) (fun _ U o U' => ∃ v L, o = .returned v ∧ Q_lchat4_0 Z xt kx y0 y1 y2 y3 fm h0 n0 v U'.heap L ∧ FrameEnd U o U' L ({ frames := 2, cells := 0, slots := 0, locals := 27 } : Room).cells ({ frames := 2, cells := 0, slots := 0, locals := 27 } : Room).slots) := by
  refine MetFree.of_bodySF (plainFor_of_name pn_java_lang_StringLatin1) hisR ?_
  intro p e s m args below meth c s₁ Bd hml0 hP hK
  obtain ⟨rfl, hZ, hh⟩ := hP
  have hx := Bd.exec
  have hby := Bd.bytes
  have hml : c.maxLocals = 2 := hml0
  have hown : s.vm.findClass "java/lang/StringLatin1" = some m.cls := findClass_of_methodNamed Bd.named
  have hnm := (name_of_methodNamed Bd.named Bd.method).1
  have X0 : Stand p l e ({ frames := 2, cells := 0, slots := 0, locals := 27 } : Room) s m #[(.ref xt), (.int 0)] below meth c s₁ [] 0 0 := Stand.of_body Bd
  have e0 : s₁.heap = h0 := by rw [← hh, Bd.state]; rfl
  have N0 := Fr.nil n0
  refine go_st (fun t k => castTop (ef_lchat4_0 m xt (0 : Int32)) k) ?_
  show Go _ _ _ _ (s₁.setTop (mkF m 0 #[rv xt, iv 0] []))
  refine go_st (fun t k => XS.iloadN X0.here hx rfl (hb hby d40_0) rfl k) ?_
  show Go _ _ _ _ (s₁.setTop (mkF m 1 #[rv xt, iv 0] [(.int 0)]))
  refine go_st (fun t k => XS.aloadN X0.here hx rfl (hb hby d40_1) rfl rfl k) ?_
  show Go _ _ _ _ (s₁.setTop (mkF m 2 #[rv xt, iv 0] [(.ref xt), (.int 0)]))
  obtain ⟨zc1, zA1, zq1, zS1, zN1, zH1, zG1⟩ := id H0
  refine go_st (fun t k => X0.arraylength hx (by rw [e0]; exact zA1.1) (State.isArrayOf_alike hZ.alike zA1.2.1) (g := (mkF m 2 #[rv xt, iv 0] [(.ref xt), (.int 0)])) rfl rfl (hb hby d40_2) t k) ?_
  rw [len_of zS1 zN1]
  show Go _ _ _ _ (s₁.setTop (mkF m 3 #[rv xt, iv 0] [(.int 4), (.int 0)]))
  obtain ⟨_, _, ⟨T2, L2, kk2, nn2⟩, -, X2, ⟨Lc2, hQ2, lq2, yq2, zq2⟩, st2⟩ := Jvm.LawKit.callS X0 hx (y := (⟨"java/lang/String", "checkIndex", "(II)V"⟩ : MethodName)) hown (mvT hZ (w256 hw)) (mvT hZ (w257 hw)) (mvT hZ (w11 hw)) (mvT hZ (w258 hw)) (by decide) (backOf (W := 0) (rm_sci0_4 l Z a0 hw [] fm h0 n0 (Nat.le_trans Z0 (Nat.le_refl _)) hfm FS O0) hZ (w258 hw) (w11 hw) (by decide) (by decide)) (g := (mkF m 3 #[rv xt, iv 0] [(.int 4), (.int 0)])) rfl (by rw [hml]; rfl) (argsL := [(.int 0), (.int 4)]) (rest := []) (lenOf pd_12 rfl) rfl (by show 2 * 0 + _ ≤ _; exact Nat.le_of_eq rfl) (hb hby d40_3) (fun _ _ => ⟨rfl, e0, (by decide : 0 + 0 ≤ _), (by decide : 0 + 0 ≤ _)⟩)
  dsimp only [Pt.U, Pt.locs, Pt.cells, Pt.slots] at X2 lq2 yq2 zq2 st2 hQ2
  obtain rfl : kk2 = 0 := yq2
  obtain rfl : nn2 = 0 := zq2
  obtain ⟨h2, e2⟩ : ∃ z, T2.heap = z := ⟨_, rfl⟩
  rw [e2] at hQ2
  obtain ⟨rfl, N2q, he2⟩ := hQ2
  have N2 : Fr n0 L2 := by rw [lq2]; exact Fr.app N0 N2q
  rw [he2] at e2
  refine go_st st2 ?_
  show Go _ _ _ _ (T2.setTop (mkF m 6 #[rv xt, iv 0] []))
  refine go_st (fun t k => XS.aloadN X2.here hx rfl (hb hby d40_6) rfl rfl k) ?_
  show Go _ _ _ _ (T2.setTop (mkF m 7 #[rv xt, iv 0] [(.ref xt)]))
  refine go_st (fun t k => XS.iloadN X2.here hx rfl (hb hby d40_7) rfl k) ?_
  show Go _ _ _ _ (T2.setTop (mkF m 8 #[rv xt, iv 0] [(.int 0), (.ref xt)]))
  obtain ⟨zc3, zA3, zq3, zS3, zN3, zH3, zG3⟩ := id H0
  have hin3 : ¬ ((0 : Int32) < 0 ∨ zc3.slots.size ≤ ((0 : Int32)).toNatClampNeg) := inb_of zS3 ⟨by decide, by decide⟩
  have hat3 : zc3.slots[((0 : Int32)).toNatClampNeg]? = some (.int y0) := Has.at zH3 hin3 rfl
  refine go_st (fun t k => X2.baloadBytes hx (j := (0 : Int32)) (v := (.int y0)) (by rw [e2]; exact zA3.1) (State.isArrayOf_alike hZ.alike zA3.2.1) zA3.2.2 hin3 hat3 (g := (mkF m 8 #[rv xt, iv 0] [(.int 0), (.ref xt)])) rfl rfl (hb hby d40_8) t k) ?_
  show Go _ _ _ _ (T2.setTop (mkF m 9 #[rv xt, iv 0] [(.int y0)]))
  refine go_st (fun t k => XS.sipush X2.here hx rfl (hb hby d40_9) k) ?_
  show Go _ _ _ _ (T2.setTop (mkF m 12 #[rv xt, iv 0] [(.int 255), (.int y0)]))
  refine go_st (fun t k => XS.iand X2.here hx rfl (hb hby d40_12) rfl k) ?_
  show Go _ _ _ _ (T2.setTop (mkF m 13 #[rv xt, iv 0] [(.int (y0 &&& (255 : Int32)))]))
  refine go_st (fun t k => XS.i2c X2.here hx rfl (hb hby d40_13) rfl k) ?_
  show Go _ _ _ _ (T2.setTop (mkF m 14 #[rv xt, iv 0] [(.int (((y0 &&& (255 : Int32))).toUInt32.toUInt16.toUInt32.toInt32))]))
  obtain ⟨fs, hr, hrun, hended, hW, hsame⟩ := X2.leave (v := some (.int (nar .char (((y0 &&& (255 : Int32))).toUInt32.toUInt16.toUInt32.toInt32)))) (fun h => by rw [Bd.returns] at h; cases h)
  refine ⟨_, _, ?_, hrun, hended, _, _, rfl, ?_, ⟨_, rfl⟩, hW, hsame.mono (by decide) (by decide)⟩
  · exact retN X2 hx (t := .char) Bd.returns (by simp) (hb hby d40_14) hr
  · show Q_lchat4_0 _ _ _ _ _ _ _ _ _ _ _ T2.heap _
    rw [e2]
    exact ⟨(((y0 &&& (255 : Int32))).toUInt32.toUInt16.toUInt32.toInt32), rfl, N2, rfl, rfl⟩
def Q_chat4_0 (Z : State) (xs : Addr) (xt : Addr) (kx : ClassId) (y0 : Int32) (y1 : Int32) (y2 : Int32) (y3 : Int32) (fm : Value) (G1 : Int32) (h0 : Heap) (n0 : Nat) (vR : Option Value) (h : Heap) (L : List Loc) : Prop := ∃ (r : Int32), vR = some (.int (nar .char r)) ∧ Fr n0 L ∧ h = h0 ∧ (r = nar .char ((y0 &&& (255 : Int32)).toUInt32.toUInt16.toUInt32.toInt32))
theorem ef_chat4_0 (m : MethodId) (x0 : Addr) (x1 : Int32) : entryFrame m #[(.ref x0), (.int x1)] 2 = mkF m 0 #[.val (.ref x0), .val (.int x1)] [] := by first | (simp [entryFrame, mkF, argsToLocals, Value.category]; done) | rfl
set_option maxRecDepth 65536 in
set_option maxHeartbeats 40000000 in
theorem rm_chat4_0 (l : Launch) (Z : State) (a0 : Array Value) (hw : ∀ d ∈ tables_1, d.before a0 Z = true) (ws : List Jvm.Cond) (xs : Addr) (xt : Addr) (kx : ClassId) (y0 : Int32) (y1 : Int32) (y2 : Int32) (y3 : Int32) (fm : Value) (G1 : Int32) (h0 : Heap) (n0 : Nat) (Z0 : n0 ≤ h0.size) (H0 : Exa Z h0 xs "java/lang/String") (H1 : Fld Z h0 xs "java/lang/String" "value" "[B" (.ref xt)) (H2 : Fld Z h0 xs "java/lang/String" "coder" "B" (.int 0)) (H3 : Arv Z h0 xt kx .byte (4 : Int32) [(.int y0), (.int y1), (.int y2), (.int y3)] (.int (0 : Int32))) (hfm : fm.isRef = true) (FS : Sta Z Z.heap "jdk/internal/util/Preconditions" "SIOOBE_FORMATTER" "Ljava/util/function/BiFunction;" fm) (CS : Sta Z Z.heap "java/lang/String" "COMPACT_STRINGS" "Z" (.int G1)) (CSn : ¬ (G1 = (0 : Int32))) (O0 : Old Z n0 h0) :
    MetFree l (⟨"java/lang/String", "charAt", "(I)C"⟩ : MethodName) (head1 (Jvm.Cond.code (⟨"java/lang/String", "charAt", "(I)C"⟩ : MethodName) jdk_42_method_56_code 2 (some .char) :: ws) ({ frames := 3, cells := 0, slots := 0, locals := 40 } : Room)) (fun a U => a = #[(.ref xs), (.int 0)] ∧ Z.Warmed39 U.vm ∧ U.heap = h0) (fun _ _ _ _ _ => True) (fun _ U o U' => ∃ v L, o = .returned v ∧ Q_chat4_0 Z xs xt kx y0 y1 y2 y3 fm G1 h0 n0 v U'.heap L ∧ FrameEnd U o U' L ({ frames := 3, cells := 0, slots := 0, locals := 40 } : Room).cells ({ frames := 3, cells := 0, slots := 0, locals := 40 } : Room).slots) := by
  refine MetFree.of_bodySF (plainFor_of_name pn_java_lang_String) hisR ?_
  intro p e s m args below meth c s₁ Bd hml0 hP hK
  obtain ⟨rfl, hZ, hh⟩ := hP
  have hx := Bd.exec
  have hby := Bd.bytes
  have hml : c.maxLocals = 2 := hml0
  have hown : s.vm.findClass "java/lang/String" = some m.cls := findClass_of_methodNamed Bd.named
  have hnm := (name_of_methodNamed Bd.named Bd.method).1
  have X0 : Stand p l e ({ frames := 3, cells := 0, slots := 0, locals := 40 } : Room) s m #[(.ref xs), (.int 0)] below meth c s₁ [] 0 0 := Stand.of_body Bd
  have e0 : s₁.heap = h0 := by rw [← hh, Bd.state]; rfl
  have N0 := Fr.nil n0
  refine go_st (fun t k => castTop (ef_chat4_0 m xs (0 : Int32)) k) ?_
  show Go _ _ _ _ (s₁.setTop (mkF m 0 #[rv xs, iv 0] []))
  refine go_st (fun t k => XS.aloadN X0.here hx rfl (hb hby d38_0) rfl rfl k) ?_
  show Go _ _ _ _ (s₁.setTop (mkF m 1 #[rv xs, iv 0] [(.ref xs)]))
  obtain ⟨cq1, kq1, q1a, q1b, q1c⟩ := isOf hZ e0 H0
  obtain ⟨_, _, ⟨T1, L1, kk1, nn1⟩, -, X1, ⟨Lc1, hQ1, lq1, yq1, zq1⟩, st1⟩ := X0.virtualBack hx (y := (⟨"java/lang/String", "isLatin1", "()Z"⟩ : MethodName)) (z := (⟨"java/lang/String", "isLatin1", "()Z"⟩ : MethodName)) hown (mvT hZ (w248 hw)) (mvT hZ (w249 hw)) (nf_same (y := (⟨"java/lang/String", "isLatin1", "()Z"⟩ : MethodName)) (y' := (⟨"java/lang/String", "equals", "(Ljava/lang/Object;)Z"⟩ : MethodName)) (a0 := #[]) rfl (mvT hZ (w75 hw)) (notFace_of_selects (args := #[]) (mvT hZ (w76 hw)))) (mvT hZ (w251 hw)) (mvT hZ (w250 hw)) (by decide) (backOf (W := 0) (rm_sisl l Z a0 hw [] xs G1 h0 n0 (Nat.le_trans Z0 (Nat.le_refl _)) H2 CS CSn O0) hZ (w252 hw) (w11 hw) (by decide) (by decide)) q1a q1c (g := (mkF m 1 #[rv xs, iv 0] [(.ref xs)])) rfl (by rw [hml]; rfl) (Steps.refl _) (argsL := []) (rest := []) (lenOf pd_2 rfl) rfl (by show 2 * 0 + _ ≤ _; exact Nat.le_of_eq rfl) (hb hby d38_1) (fun _ _ => ⟨rfl, e0, (by decide : 0 + 0 ≤ _), (by decide : 0 + 0 ≤ _)⟩)
  dsimp only [Pt.U, Pt.locs, Pt.cells, Pt.slots] at X1 lq1 yq1 zq1 st1 hQ1
  obtain rfl : kk1 = 0 := yq1
  obtain rfl : nn1 = 0 := zq1
  obtain ⟨h1, e1⟩ : ∃ z, T1.heap = z := ⟨_, rfl⟩
  rw [e1] at hQ1
  obtain ⟨rfl, N1q, he1⟩ := hQ1
  have N1 : Fr n0 L1 := by rw [lq1]; exact Fr.app N0 N1q
  rw [he1] at e1
  refine go_tr st1 ?_
  show Go _ _ _ _ (T1.setTop (mkF m 4 #[rv xs, iv 0] [(.int 1)]))
  refine go_st (fun t k => XS.ifNo X1.here hx rfl (hb hby d38_4) rfl ((if0 _ _).trans (feq ((by decide) : ¬ ((1 : Int32) = (0 : Int32)))).1) k) ?_
  show Go _ _ _ _ (T1.setTop (mkF m 7 #[rv xs, iv 0] []))
  refine go_st (fun t k => XS.aloadN X1.here hx rfl (hb hby d38_7) rfl rfl k) ?_
  show Go _ _ _ _ (T1.setTop (mkF m 8 #[rv xs, iv 0] [(.ref xs)]))
  obtain ⟨T2, X2, e2, st2⟩ := getF X1 hx hZ hown (host := "") (Or.inl (w36 hw)) Via.refl e1 H1 (g := (mkF m 8 #[rv xs, iv 0] [(.ref xs)])) rfl rfl (hb hby d38_8)
  refine go_st (fun t k => st2 t k) ?_
  show Go _ _ _ _ (T2.setTop (mkF m 11 #[rv xs, iv 0] [(.ref xt)]))
  refine go_st (fun t k => XS.iloadN X2.here hx rfl (hb hby d38_11) rfl k) ?_
  show Go _ _ _ _ (T2.setTop (mkF m 12 #[rv xs, iv 0] [(.int 0), (.ref xt)]))
  obtain ⟨_, _, ⟨T3, L3, kk3, nn3⟩, -, X3, ⟨Lc3, hQ3, lq3, yq3, zq3⟩, st3⟩ := Jvm.LawKit.callS X2 hx (y := (⟨"java/lang/StringLatin1", "charAt", "([BI)C"⟩ : MethodName)) hown (mvT hZ (w253 hw)) (mvT hZ (w254 hw)) (mvT hZ (w122 hw)) (mvT hZ (w255 hw)) (by decide) (backOf (W := 0) (rm_lchat4_0 l Z a0 hw [] xt kx y0 y1 y2 y3 fm h0 n0 (Nat.le_trans Z0 (Nat.le_refl _)) H3 hfm FS O0) hZ (w255 hw) (w122 hw) (by decide) (by decide)) (g := (mkF m 12 #[rv xs, iv 0] [(.int 0), (.ref xt)])) rfl (by rw [hml]; rfl) (argsL := [(.ref xt), (.int 0)]) (rest := []) (lenOf pd_28 rfl) rfl (by show 2 * 0 + _ ≤ _; exact Nat.le_of_eq rfl) (hb hby d38_12) (fun _ _ => ⟨rfl, e2, (by decide : 0 + 0 ≤ _), (by decide : 0 + 0 ≤ _)⟩)
  dsimp only [Pt.U, Pt.locs, Pt.cells, Pt.slots] at X3 lq3 yq3 zq3 st3 hQ3
  obtain rfl : kk3 = 0 := yq3
  obtain rfl : nn3 = 0 := zq3
  obtain ⟨h3, e3⟩ : ∃ z, T3.heap = z := ⟨_, rfl⟩
  rw [e3] at hQ3
  obtain ⟨r_3, rfl, N3q, he3, hr_3⟩ := hQ3
  have N3 : Fr n0 L3 := by rw [lq3]; exact Fr.app N1 N3q
  rw [he3] at e3
  refine go_st st3 ?_
  show Go _ _ _ _ (T3.setTop (mkF m 15 #[rv xs, iv 0] [(.int (nar .char r_3))]))
  obtain ⟨fs, hr, hrun, hended, hW, hsame⟩ := X3.leave (v := some (.int (nar .char (nar .char r_3)))) (fun h => by rw [Bd.returns] at h; cases h)
  refine ⟨_, _, ?_, hrun, hended, _, _, rfl, ?_, ⟨_, rfl⟩, hW, hsame.mono (by decide) (by decide)⟩
  · exact retN X3 hx (t := .char) Bd.returns (by simp) (hb hby d38_15) hr
  · show Q_chat4_0 _ _ _ _ _ _ _ _ _ _ _ _ _ T3.heap _
    rw [e3]
    exact ⟨(nar .char r_3), rfl, N3, rfl, (congrArg (nar .char) hr_3)⟩
def Q_pci1_4 (Z : State) (fm : Value) (h0 : Heap) (n0 : Nat) (vR : Option Value) (h : Heap) (L : List Loc) : Prop := vR = some (.int 1) ∧ Fr n0 L ∧ h = h0
theorem ef_pci1_4 (m : MethodId) (x0 : Int32) (x1 : Int32) (x2 : Value) (hx2 : x2.isRef = true) : entryFrame m #[(.int x0), (.int x1), x2] 3 = mkF m 0 #[.val (.int x0), .val (.int x1), .val x2] [] := by rcases ref_cases hx2 with rfl | ⟨y2, rfl⟩ <;> simp [entryFrame, mkF, argsToLocals, Value.category]
set_option maxRecDepth 65536 in
set_option maxHeartbeats 40000000 in
theorem rm_pci1_4 (l : Launch) (Z : State) (a0 : Array Value) (hw : ∀ d ∈ tables_1, d.before a0 Z = true) (ws : List Jvm.Cond) (fm : Value) (h0 : Heap) (n0 : Nat) (Z0 : n0 ≤ h0.size) (hfm : fm.isRef = true) :
    MetFree l (⟨"jdk/internal/util/Preconditions", "checkIndex", "(IILjava/util/function/BiFunction;)I"⟩ : MethodName) (head1 (Jvm.Cond.code (⟨"jdk/internal/util/Preconditions", "checkIndex", "(IILjava/util/function/BiFunction;)I"⟩ : MethodName) jdk_41_method_11_code 3 (some .int) :: ws) ({ frames := 0, cells := 0, slots := 0, locals := 0 } : Room)) (fun a U => a = #[(.int 1), (.int 4), fm] ∧ Z.Warmed39 U.vm ∧ U.heap = h0) (fun _ _ _ _ _ => True) (fun _ U o U' => ∃ v L, o = .returned v ∧ Q_pci1_4 Z fm h0 n0 v U'.heap L ∧ FrameEnd U o U' L ({ frames := 0, cells := 0, slots := 0, locals := 0 } : Room).cells ({ frames := 0, cells := 0, slots := 0, locals := 0 } : Room).slots) := by
  refine MetFree.of_bodySF (plainFor_of_name pn_jdk_internal_util_Preconditions) hisR ?_
  intro p e s m args below meth c s₁ Bd hml0 hP hK
  obtain ⟨rfl, hZ, hh⟩ := hP
  have hx := Bd.exec
  have hby := Bd.bytes
  have hml : c.maxLocals = 3 := hml0
  have hown : s.vm.findClass "jdk/internal/util/Preconditions" = some m.cls := findClass_of_methodNamed Bd.named
  have hnm := (name_of_methodNamed Bd.named Bd.method).1
  have X0 : Stand p l e ({ frames := 0, cells := 0, slots := 0, locals := 0 } : Room) s m #[(.int 1), (.int 4), fm] below meth c s₁ [] 0 0 := Stand.of_body Bd
  have e0 : s₁.heap = h0 := by rw [← hh, Bd.state]; rfl
  have N0 := Fr.nil n0
  refine go_st (fun t k => castTop (ef_pci1_4 m (1 : Int32) (4 : Int32) fm hfm) k) ?_
  show Go _ _ _ _ (s₁.setTop (mkF m 0 #[iv 1, iv 4, .val fm] []))
  refine go_st (fun t k => XS.iloadN X0.here hx rfl (hb hby d42_0) rfl k) ?_
  show Go _ _ _ _ (s₁.setTop (mkF m 1 #[iv 1, iv 4, .val fm] [(.int 1)]))
  refine go_st (fun t k => XS.ifNo X0.here hx rfl (hb hby d42_1) rfl ((if0 _ _).trans (flt ((by decide) : ¬ ((1 : Int32) < (0 : Int32)))).1) k) ?_
  show Go _ _ _ _ (s₁.setTop (mkF m 4 #[iv 1, iv 4, .val fm] []))
  refine go_st (fun t k => XS.iloadN X0.here hx rfl (hb hby d42_4) rfl k) ?_
  show Go _ _ _ _ (s₁.setTop (mkF m 5 #[iv 1, iv 4, .val fm] [(.int 1)]))
  refine go_st (fun t k => XS.iloadN X0.here hx rfl (hb hby d42_5) rfl k) ?_
  show Go _ _ _ _ (s₁.setTop (mkF m 6 #[iv 1, iv 4, .val fm] [(.int 4), (.int 1)]))
  refine go_st (fun t k => XS.icmpYes X0.here hx rfl (pc0 := 6) (pc' := 16) rfl (hb hby d42_6) rfl (tlt ((by decide) : (1 : Int32) < (4 : Int32))).1 (by decide) (by decide) k) ?_
  show Go _ _ _ _ (s₁.setTop (mkF m 16 #[iv 1, iv 4, .val fm] []))
  refine go_st (fun t k => XS.iloadN X0.here hx rfl (hb hby d42_16) rfl k) ?_
  show Go _ _ _ _ (s₁.setTop (mkF m 17 #[iv 1, iv 4, .val fm] [(.int 1)]))
  obtain ⟨fs, hr, hrun, hended, hW, hsame⟩ := X0.leave (v := some (.int 1)) (fun h => by rw [Bd.returns] at h; cases h)
  refine ⟨_, _, ?_, hrun, hended, _, _, rfl, ?_, ⟨_, rfl⟩, hW, hsame.mono (by decide) (by decide)⟩
  · exact retI X0 hx Bd.returns (hb hby d42_17) hr
  · show Q_pci1_4 _ _ _ _ _ s₁.heap _
    rw [e0]
    exact ⟨rfl, N0, rfl⟩
def Q_sci1_4 (Z : State) (fm : Value) (h0 : Heap) (n0 : Nat) (vR : Option Value) (h : Heap) (L : List Loc) : Prop := vR = none ∧ Fr n0 L ∧ h = h0
theorem ef_sci1_4 (m : MethodId) (x0 : Int32) (x1 : Int32) : entryFrame m #[(.int x0), (.int x1)] 2 = mkF m 0 #[.val (.int x0), .val (.int x1)] [] := by first | (simp [entryFrame, mkF, argsToLocals, Value.category]; done) | rfl
set_option maxRecDepth 65536 in
set_option maxHeartbeats 40000000 in
theorem rm_sci1_4 (l : Launch) (Z : State) (a0 : Array Value) (hw : ∀ d ∈ tables_1, d.before a0 Z = true) (ws : List Jvm.Cond) (fm : Value) (h0 : Heap) (n0 : Nat) (Z0 : n0 ≤ h0.size) (hfm : fm.isRef = true) (FS : Sta Z Z.heap "jdk/internal/util/Preconditions" "SIOOBE_FORMATTER" "Ljava/util/function/BiFunction;" fm) (O0 : Old Z n0 h0) :
    MetFree l (⟨"java/lang/String", "checkIndex", "(II)V"⟩ : MethodName) (head1 (Jvm.Cond.code (⟨"java/lang/String", "checkIndex", "(II)V"⟩ : MethodName) jdk_42_method_155_code 2 none :: ws) ({ frames := 1, cells := 0, slots := 0, locals := 14 } : Room)) (fun a U => a = #[(.int 1), (.int 4)] ∧ Z.Warmed39 U.vm ∧ U.heap = h0) (fun _ _ _ _ _ => True) (fun _ U o U' => ∃ v L, o = .returned v ∧ Q_sci1_4 Z fm h0 n0 v U'.heap L ∧ FrameEnd U o U' L ({ frames := 1, cells := 0, slots := 0, locals := 14 } : Room).cells ({ frames := 1, cells := 0, slots := 0, locals := 14 } : Room).slots) := by
  refine MetFree.of_bodySF (plainFor_of_name pn_java_lang_String) hisR ?_
  intro p e s m args below meth c s₁ Bd hml0 hP hK
  obtain ⟨rfl, hZ, hh⟩ := hP
  have hx := Bd.exec
  have hby := Bd.bytes
  have hml : c.maxLocals = 2 := hml0
  have hown : s.vm.findClass "java/lang/String" = some m.cls := findClass_of_methodNamed Bd.named
  have hnm := (name_of_methodNamed Bd.named Bd.method).1
  have X0 : Stand p l e ({ frames := 1, cells := 0, slots := 0, locals := 14 } : Room) s m #[(.int 1), (.int 4)] below meth c s₁ [] 0 0 := Stand.of_body Bd
  have e0 : s₁.heap = h0 := by rw [← hh, Bd.state]; rfl
  have N0 := Fr.nil n0
  refine go_st (fun t k => castTop (ef_sci1_4 m (1 : Int32) (4 : Int32)) k) ?_
  show Go _ _ _ _ (s₁.setTop (mkF m 0 #[iv 1, iv 4] []))
  refine go_st (fun t k => XS.iloadN X0.here hx rfl (hb hby d41_0) rfl k) ?_
  show Go _ _ _ _ (s₁.setTop (mkF m 1 #[iv 1, iv 4] [(.int 1)]))
  refine go_st (fun t k => XS.iloadN X0.here hx rfl (hb hby d41_1) rfl k) ?_
  show Go _ _ _ _ (s₁.setTop (mkF m 2 #[iv 1, iv 4] [(.int 4), (.int 1)]))
  obtain ⟨T1, X1, e1, st1⟩ := getS2 X0 hx hZ hown (host := "") (Or.inl (w259 hw)) Via.refl e0 (Sta.ext O0.2 FS) (g := (mkF m 2 #[iv 1, iv 4] [(.int 4), (.int 1)])) rfl (hb hby d41_2)
  refine go_st (fun t k => st1 t k) ?_
  show Go _ _ _ _ (T1.setTop (mkF m 5 #[iv 1, iv 4] [fm, (.int 4), (.int 1)]))
  obtain ⟨_, _, ⟨T2, L2, kk2, nn2⟩, -, X2, ⟨Lc2, hQ2, lq2, yq2, zq2⟩, st2⟩ := Jvm.LawKit.callS X1 hx (y := (⟨"jdk/internal/util/Preconditions", "checkIndex", "(IILjava/util/function/BiFunction;)I"⟩ : MethodName)) hown (mvT hZ (w261 hw)) (mvT hZ (w262 hw)) (mvT hZ (w260 hw)) (mvT hZ (w263 hw)) (by decide) (backOf (W := 0) (rm_pci1_4 l Z a0 hw [] fm h0 n0 (Nat.le_trans Z0 (Nat.le_refl _)) hfm) hZ (w263 hw) (w260 hw) (by decide) (by decide)) (g := (mkF m 5 #[iv 1, iv 4] [fm, (.int 4), (.int 1)])) rfl (by rw [hml]; rfl) (argsL := [(.int 1), (.int 4), fm]) (rest := []) (lenOf pd_27 rfl) rfl (by show 2 * 0 + _ ≤ _; exact Nat.le_of_eq rfl) (hb hby d41_5) (fun _ _ => ⟨rfl, e1, (by decide : 0 + 0 ≤ _), (by decide : 0 + 0 ≤ _)⟩)
  dsimp only [Pt.U, Pt.locs, Pt.cells, Pt.slots] at X2 lq2 yq2 zq2 st2 hQ2
  obtain rfl : kk2 = 0 := yq2
  obtain rfl : nn2 = 0 := zq2
  obtain ⟨h2, e2⟩ : ∃ z, T2.heap = z := ⟨_, rfl⟩
  rw [e2] at hQ2
  obtain ⟨rfl, N2q, he2⟩ := hQ2
  have N2 : Fr n0 L2 := by rw [lq2]; exact Fr.app N0 N2q
  rw [he2] at e2
  refine go_st st2 ?_
  show Go _ _ _ _ (T2.setTop (mkF m 8 #[iv 1, iv 4] [(.int 1)]))
  refine go_st (fun t k => XS.pop X2.here hx rfl (hb hby d41_8) rfl rfl k) ?_
  show Go _ _ _ _ (T2.setTop (mkF m 9 #[iv 1, iv 4] []))
  obtain ⟨fs, hr, hrun, hended, hW, hsame⟩ := X2.leave (v := none) (fun _ => rfl)
  refine ⟨_, _, ?_, hrun, hended, _, _, rfl, ?_, ⟨_, rfl⟩, hW, hsame.mono (by decide) (by decide)⟩
  · exact X2.returnOut hx Bd.returns (hb hby d41_9) hr
  · show Q_sci1_4 _ _ _ _ _ T2.heap _
    rw [e2]
    exact ⟨rfl, N2, rfl⟩
def Q_lchat4_1 (Z : State) (xt : Addr) (kx : ClassId) (y0 : Int32) (y1 : Int32) (y2 : Int32) (y3 : Int32) (fm : Value) (h0 : Heap) (n0 : Nat) (vR : Option Value) (h : Heap) (L : List Loc) : Prop := ∃ (r : Int32), vR = some (.int (nar .char r)) ∧ Fr n0 L ∧ h = h0 ∧ (r = ((y1 &&& (255 : Int32)).toUInt32.toUInt16.toUInt32.toInt32))
theorem ef_lchat4_1 (m : MethodId) (x0 : Addr) (x1 : Int32) : entryFrame m #[(.ref x0), (.int x1)] 2 = mkF m 0 #[.val (.ref x0), .val (.int x1)] [] := by first | (simp [entryFrame, mkF, argsToLocals, Value.category]; done) | rfl
set_option maxRecDepth 65536 in
set_option maxHeartbeats 40000000 in
theorem rm_lchat4_1 (l : Launch) (Z : State) (a0 : Array Value) (hw : ∀ d ∈ tables_1, d.before a0 Z = true) (ws : List Jvm.Cond) (xt : Addr) (kx : ClassId) (y0 : Int32) (y1 : Int32) (y2 : Int32) (y3 : Int32) (fm : Value) (h0 : Heap) (n0 : Nat) (Z0 : n0 ≤ h0.size) (H0 : Arv Z h0 xt kx .byte (4 : Int32) [(.int y0), (.int y1), (.int y2), (.int y3)] (.int (0 : Int32))) (hfm : fm.isRef = true) (FS : Sta Z Z.heap "jdk/internal/util/Preconditions" "SIOOBE_FORMATTER" "Ljava/util/function/BiFunction;" fm) (O0 : Old Z n0 h0) :
    MetFree l (⟨"java/lang/StringLatin1", "charAt", "([BI)C"⟩ : MethodName) (head1 (Jvm.Cond.code (⟨"java/lang/StringLatin1", "charAt", "([BI)C"⟩ : MethodName) jdk_43_method_2_code 2 (some .char) :: ws) ({ frames := 2, cells := 0, slots := 0, locals := 27 } : Room)) (fun a U => a = #[(.ref xt), (.int 1)] ∧ Z.Warmed39 U.vm ∧ U.heap = h0) (fun _ _ _ _ _ => True) (fun _ U o U' => ∃ v L, o = .returned v ∧ Q_lchat4_1 Z xt kx y0 y1 y2 y3 fm h0 n0 v U'.heap L ∧ FrameEnd U o U' L ({ frames := 2, cells := 0, slots := 0, locals := 27 } : Room).cells ({ frames := 2, cells := 0, slots := 0, locals := 27 } : Room).slots) := by
  refine MetFree.of_bodySF (plainFor_of_name pn_java_lang_StringLatin1) hisR ?_
  intro p e s m args below meth c s₁ Bd hml0 hP hK
  obtain ⟨rfl, hZ, hh⟩ := hP
  have hx := Bd.exec
  have hby := Bd.bytes
  have hml : c.maxLocals = 2 := hml0
  have hown : s.vm.findClass "java/lang/StringLatin1" = some m.cls := findClass_of_methodNamed Bd.named
  have hnm := (name_of_methodNamed Bd.named Bd.method).1
  have X0 : Stand p l e ({ frames := 2, cells := 0, slots := 0, locals := 27 } : Room) s m #[(.ref xt), (.int 1)] below meth c s₁ [] 0 0 := Stand.of_body Bd
  have e0 : s₁.heap = h0 := by rw [← hh, Bd.state]; rfl
  have N0 := Fr.nil n0
  refine go_st (fun t k => castTop (ef_lchat4_1 m xt (1 : Int32)) k) ?_
  show Go _ _ _ _ (s₁.setTop (mkF m 0 #[rv xt, iv 1] []))
  refine go_st (fun t k => XS.iloadN X0.here hx rfl (hb hby d40_0) rfl k) ?_
  show Go _ _ _ _ (s₁.setTop (mkF m 1 #[rv xt, iv 1] [(.int 1)]))
  refine go_st (fun t k => XS.aloadN X0.here hx rfl (hb hby d40_1) rfl rfl k) ?_
  show Go _ _ _ _ (s₁.setTop (mkF m 2 #[rv xt, iv 1] [(.ref xt), (.int 1)]))
  obtain ⟨zc1, zA1, zq1, zS1, zN1, zH1, zG1⟩ := id H0
  refine go_st (fun t k => X0.arraylength hx (by rw [e0]; exact zA1.1) (State.isArrayOf_alike hZ.alike zA1.2.1) (g := (mkF m 2 #[rv xt, iv 1] [(.ref xt), (.int 1)])) rfl rfl (hb hby d40_2) t k) ?_
  rw [len_of zS1 zN1]
  show Go _ _ _ _ (s₁.setTop (mkF m 3 #[rv xt, iv 1] [(.int 4), (.int 1)]))
  obtain ⟨_, _, ⟨T2, L2, kk2, nn2⟩, -, X2, ⟨Lc2, hQ2, lq2, yq2, zq2⟩, st2⟩ := Jvm.LawKit.callS X0 hx (y := (⟨"java/lang/String", "checkIndex", "(II)V"⟩ : MethodName)) hown (mvT hZ (w256 hw)) (mvT hZ (w257 hw)) (mvT hZ (w11 hw)) (mvT hZ (w258 hw)) (by decide) (backOf (W := 0) (rm_sci1_4 l Z a0 hw [] fm h0 n0 (Nat.le_trans Z0 (Nat.le_refl _)) hfm FS O0) hZ (w258 hw) (w11 hw) (by decide) (by decide)) (g := (mkF m 3 #[rv xt, iv 1] [(.int 4), (.int 1)])) rfl (by rw [hml]; rfl) (argsL := [(.int 1), (.int 4)]) (rest := []) (lenOf pd_12 rfl) rfl (by show 2 * 0 + _ ≤ _; exact Nat.le_of_eq rfl) (hb hby d40_3) (fun _ _ => ⟨rfl, e0, (by decide : 0 + 0 ≤ _), (by decide : 0 + 0 ≤ _)⟩)
  dsimp only [Pt.U, Pt.locs, Pt.cells, Pt.slots] at X2 lq2 yq2 zq2 st2 hQ2
  obtain rfl : kk2 = 0 := yq2
  obtain rfl : nn2 = 0 := zq2
  obtain ⟨h2, e2⟩ : ∃ z, T2.heap = z := ⟨_, rfl⟩
  rw [e2] at hQ2
  obtain ⟨rfl, N2q, he2⟩ := hQ2
  have N2 : Fr n0 L2 := by rw [lq2]; exact Fr.app N0 N2q
  rw [he2] at e2
  refine go_st st2 ?_
  show Go _ _ _ _ (T2.setTop (mkF m 6 #[rv xt, iv 1] []))
  refine go_st (fun t k => XS.aloadN X2.here hx rfl (hb hby d40_6) rfl rfl k) ?_
  show Go _ _ _ _ (T2.setTop (mkF m 7 #[rv xt, iv 1] [(.ref xt)]))
  refine go_st (fun t k => XS.iloadN X2.here hx rfl (hb hby d40_7) rfl k) ?_
  show Go _ _ _ _ (T2.setTop (mkF m 8 #[rv xt, iv 1] [(.int 1), (.ref xt)]))
  obtain ⟨zc3, zA3, zq3, zS3, zN3, zH3, zG3⟩ := id H0
  have hin3 : ¬ ((1 : Int32) < 0 ∨ zc3.slots.size ≤ ((1 : Int32)).toNatClampNeg) := inb_of zS3 ⟨by decide, by decide⟩
  have hat3 : zc3.slots[((1 : Int32)).toNatClampNeg]? = some (.int y1) := Has.at zH3 hin3 rfl
  refine go_st (fun t k => X2.baloadBytes hx (j := (1 : Int32)) (v := (.int y1)) (by rw [e2]; exact zA3.1) (State.isArrayOf_alike hZ.alike zA3.2.1) zA3.2.2 hin3 hat3 (g := (mkF m 8 #[rv xt, iv 1] [(.int 1), (.ref xt)])) rfl rfl (hb hby d40_8) t k) ?_
  show Go _ _ _ _ (T2.setTop (mkF m 9 #[rv xt, iv 1] [(.int y1)]))
  refine go_st (fun t k => XS.sipush X2.here hx rfl (hb hby d40_9) k) ?_
  show Go _ _ _ _ (T2.setTop (mkF m 12 #[rv xt, iv 1] [(.int 255), (.int y1)]))
  refine go_st (fun t k => XS.iand X2.here hx rfl (hb hby d40_12) rfl k) ?_
  show Go _ _ _ _ (T2.setTop (mkF m 13 #[rv xt, iv 1] [(.int (y1 &&& (255 : Int32)))]))
  refine go_st (fun t k => XS.i2c X2.here hx rfl (hb hby d40_13) rfl k) ?_
  show Go _ _ _ _ (T2.setTop (mkF m 14 #[rv xt, iv 1] [(.int (((y1 &&& (255 : Int32))).toUInt32.toUInt16.toUInt32.toInt32))]))
  obtain ⟨fs, hr, hrun, hended, hW, hsame⟩ := X2.leave (v := some (.int (nar .char (((y1 &&& (255 : Int32))).toUInt32.toUInt16.toUInt32.toInt32)))) (fun h => by rw [Bd.returns] at h; cases h)
  refine ⟨_, _, ?_, hrun, hended, _, _, rfl, ?_, ⟨_, rfl⟩, hW, hsame.mono (by decide) (by decide)⟩
  · exact retN X2 hx (t := .char) Bd.returns (by simp) (hb hby d40_14) hr
  · show Q_lchat4_1 _ _ _ _ _ _ _ _ _ _ _ T2.heap _
    rw [e2]
    exact ⟨(((y1 &&& (255 : Int32))).toUInt32.toUInt16.toUInt32.toInt32), rfl, N2, rfl, rfl⟩
def Q_chat4_1 (Z : State) (xs : Addr) (xt : Addr) (kx : ClassId) (y0 : Int32) (y1 : Int32) (y2 : Int32) (y3 : Int32) (fm : Value) (G1 : Int32) (h0 : Heap) (n0 : Nat) (vR : Option Value) (h : Heap) (L : List Loc) : Prop := ∃ (r : Int32), vR = some (.int (nar .char r)) ∧ Fr n0 L ∧ h = h0 ∧ (r = nar .char ((y1 &&& (255 : Int32)).toUInt32.toUInt16.toUInt32.toInt32))
theorem ef_chat4_1 (m : MethodId) (x0 : Addr) (x1 : Int32) : entryFrame m #[(.ref x0), (.int x1)] 2 = mkF m 0 #[.val (.ref x0), .val (.int x1)] [] := by first | (simp [entryFrame, mkF, argsToLocals, Value.category]; done) | rfl
set_option maxRecDepth 65536 in
set_option maxHeartbeats 40000000 in
theorem rm_chat4_1 (l : Launch) (Z : State) (a0 : Array Value) (hw : ∀ d ∈ tables_1, d.before a0 Z = true) (ws : List Jvm.Cond) (xs : Addr) (xt : Addr) (kx : ClassId) (y0 : Int32) (y1 : Int32) (y2 : Int32) (y3 : Int32) (fm : Value) (G1 : Int32) (h0 : Heap) (n0 : Nat) (Z0 : n0 ≤ h0.size) (H0 : Exa Z h0 xs "java/lang/String") (H1 : Fld Z h0 xs "java/lang/String" "value" "[B" (.ref xt)) (H2 : Fld Z h0 xs "java/lang/String" "coder" "B" (.int 0)) (H3 : Arv Z h0 xt kx .byte (4 : Int32) [(.int y0), (.int y1), (.int y2), (.int y3)] (.int (0 : Int32))) (hfm : fm.isRef = true) (FS : Sta Z Z.heap "jdk/internal/util/Preconditions" "SIOOBE_FORMATTER" "Ljava/util/function/BiFunction;" fm) (CS : Sta Z Z.heap "java/lang/String" "COMPACT_STRINGS" "Z" (.int G1)) (CSn : ¬ (G1 = (0 : Int32))) (O0 : Old Z n0 h0) :
    MetFree l (⟨"java/lang/String", "charAt", "(I)C"⟩ : MethodName) (head1 (Jvm.Cond.code (⟨"java/lang/String", "charAt", "(I)C"⟩ : MethodName) jdk_42_method_56_code 2 (some .char) :: ws) ({ frames := 3, cells := 0, slots := 0, locals := 40 } : Room)) (fun a U => a = #[(.ref xs), (.int 1)] ∧ Z.Warmed39 U.vm ∧ U.heap = h0) (fun _ _ _ _ _ => True) (fun _ U o U' => ∃ v L, o = .returned v ∧ Q_chat4_1 Z xs xt kx y0 y1 y2 y3 fm G1 h0 n0 v U'.heap L ∧ FrameEnd U o U' L ({ frames := 3, cells := 0, slots := 0, locals := 40 } : Room).cells ({ frames := 3, cells := 0, slots := 0, locals := 40 } : Room).slots) := by
  refine MetFree.of_bodySF (plainFor_of_name pn_java_lang_String) hisR ?_
  intro p e s m args below meth c s₁ Bd hml0 hP hK
  obtain ⟨rfl, hZ, hh⟩ := hP
  have hx := Bd.exec
  have hby := Bd.bytes
  have hml : c.maxLocals = 2 := hml0
  have hown : s.vm.findClass "java/lang/String" = some m.cls := findClass_of_methodNamed Bd.named
  have hnm := (name_of_methodNamed Bd.named Bd.method).1
  have X0 : Stand p l e ({ frames := 3, cells := 0, slots := 0, locals := 40 } : Room) s m #[(.ref xs), (.int 1)] below meth c s₁ [] 0 0 := Stand.of_body Bd
  have e0 : s₁.heap = h0 := by rw [← hh, Bd.state]; rfl
  have N0 := Fr.nil n0
  refine go_st (fun t k => castTop (ef_chat4_1 m xs (1 : Int32)) k) ?_
  show Go _ _ _ _ (s₁.setTop (mkF m 0 #[rv xs, iv 1] []))
  refine go_st (fun t k => XS.aloadN X0.here hx rfl (hb hby d38_0) rfl rfl k) ?_
  show Go _ _ _ _ (s₁.setTop (mkF m 1 #[rv xs, iv 1] [(.ref xs)]))
  obtain ⟨cq1, kq1, q1a, q1b, q1c⟩ := isOf hZ e0 H0
  obtain ⟨_, _, ⟨T1, L1, kk1, nn1⟩, -, X1, ⟨Lc1, hQ1, lq1, yq1, zq1⟩, st1⟩ := X0.virtualBack hx (y := (⟨"java/lang/String", "isLatin1", "()Z"⟩ : MethodName)) (z := (⟨"java/lang/String", "isLatin1", "()Z"⟩ : MethodName)) hown (mvT hZ (w248 hw)) (mvT hZ (w249 hw)) (nf_same (y := (⟨"java/lang/String", "isLatin1", "()Z"⟩ : MethodName)) (y' := (⟨"java/lang/String", "equals", "(Ljava/lang/Object;)Z"⟩ : MethodName)) (a0 := #[]) rfl (mvT hZ (w75 hw)) (notFace_of_selects (args := #[]) (mvT hZ (w76 hw)))) (mvT hZ (w251 hw)) (mvT hZ (w250 hw)) (by decide) (backOf (W := 0) (rm_sisl l Z a0 hw [] xs G1 h0 n0 (Nat.le_trans Z0 (Nat.le_refl _)) H2 CS CSn O0) hZ (w252 hw) (w11 hw) (by decide) (by decide)) q1a q1c (g := (mkF m 1 #[rv xs, iv 1] [(.ref xs)])) rfl (by rw [hml]; rfl) (Steps.refl _) (argsL := []) (rest := []) (lenOf pd_2 rfl) rfl (by show 2 * 0 + _ ≤ _; exact Nat.le_of_eq rfl) (hb hby d38_1) (fun _ _ => ⟨rfl, e0, (by decide : 0 + 0 ≤ _), (by decide : 0 + 0 ≤ _)⟩)
  dsimp only [Pt.U, Pt.locs, Pt.cells, Pt.slots] at X1 lq1 yq1 zq1 st1 hQ1
  obtain rfl : kk1 = 0 := yq1
  obtain rfl : nn1 = 0 := zq1
  obtain ⟨h1, e1⟩ : ∃ z, T1.heap = z := ⟨_, rfl⟩
  rw [e1] at hQ1
  obtain ⟨rfl, N1q, he1⟩ := hQ1
  have N1 : Fr n0 L1 := by rw [lq1]; exact Fr.app N0 N1q
  rw [he1] at e1
  refine go_tr st1 ?_
  show Go _ _ _ _ (T1.setTop (mkF m 4 #[rv xs, iv 1] [(.int 1)]))
  refine go_st (fun t k => XS.ifNo X1.here hx rfl (hb hby d38_4) rfl ((if0 _ _).trans (feq ((by decide) : ¬ ((1 : Int32) = (0 : Int32)))).1) k) ?_
  show Go _ _ _ _ (T1.setTop (mkF m 7 #[rv xs, iv 1] []))
  refine go_st (fun t k => XS.aloadN X1.here hx rfl (hb hby d38_7) rfl rfl k) ?_
  show Go _ _ _ _ (T1.setTop (mkF m 8 #[rv xs, iv 1] [(.ref xs)]))
  obtain ⟨T2, X2, e2, st2⟩ := getF X1 hx hZ hown (host := "") (Or.inl (w36 hw)) Via.refl e1 H1 (g := (mkF m 8 #[rv xs, iv 1] [(.ref xs)])) rfl rfl (hb hby d38_8)
  refine go_st (fun t k => st2 t k) ?_
  show Go _ _ _ _ (T2.setTop (mkF m 11 #[rv xs, iv 1] [(.ref xt)]))
  refine go_st (fun t k => XS.iloadN X2.here hx rfl (hb hby d38_11) rfl k) ?_
  show Go _ _ _ _ (T2.setTop (mkF m 12 #[rv xs, iv 1] [(.int 1), (.ref xt)]))
  obtain ⟨_, _, ⟨T3, L3, kk3, nn3⟩, -, X3, ⟨Lc3, hQ3, lq3, yq3, zq3⟩, st3⟩ := Jvm.LawKit.callS X2 hx (y := (⟨"java/lang/StringLatin1", "charAt", "([BI)C"⟩ : MethodName)) hown (mvT hZ (w253 hw)) (mvT hZ (w254 hw)) (mvT hZ (w122 hw)) (mvT hZ (w255 hw)) (by decide) (backOf (W := 0) (rm_lchat4_1 l Z a0 hw [] xt kx y0 y1 y2 y3 fm h0 n0 (Nat.le_trans Z0 (Nat.le_refl _)) H3 hfm FS O0) hZ (w255 hw) (w122 hw) (by decide) (by decide)) (g := (mkF m 12 #[rv xs, iv 1] [(.int 1), (.ref xt)])) rfl (by rw [hml]; rfl) (argsL := [(.ref xt), (.int 1)]) (rest := []) (lenOf pd_28 rfl) rfl (by show 2 * 0 + _ ≤ _; exact Nat.le_of_eq rfl) (hb hby d38_12) (fun _ _ => ⟨rfl, e2, (by decide : 0 + 0 ≤ _), (by decide : 0 + 0 ≤ _)⟩)
  dsimp only [Pt.U, Pt.locs, Pt.cells, Pt.slots] at X3 lq3 yq3 zq3 st3 hQ3
  obtain rfl : kk3 = 0 := yq3
  obtain rfl : nn3 = 0 := zq3
  obtain ⟨h3, e3⟩ : ∃ z, T3.heap = z := ⟨_, rfl⟩
  rw [e3] at hQ3
  obtain ⟨r_3, rfl, N3q, he3, hr_3⟩ := hQ3
  have N3 : Fr n0 L3 := by rw [lq3]; exact Fr.app N1 N3q
  rw [he3] at e3
  refine go_st st3 ?_
  show Go _ _ _ _ (T3.setTop (mkF m 15 #[rv xs, iv 1] [(.int (nar .char r_3))]))
  obtain ⟨fs, hr, hrun, hended, hW, hsame⟩ := X3.leave (v := some (.int (nar .char (nar .char r_3)))) (fun h => by rw [Bd.returns] at h; cases h)
  refine ⟨_, _, ?_, hrun, hended, _, _, rfl, ?_, ⟨_, rfl⟩, hW, hsame.mono (by decide) (by decide)⟩
  · exact retN X3 hx (t := .char) Bd.returns (by simp) (hb hby d38_15) hr
  · show Q_chat4_1 _ _ _ _ _ _ _ _ _ _ _ _ _ T3.heap _
    rw [e3]
    exact ⟨(nar .char r_3), rfl, N3, rfl, (congrArg (nar .char) hr_3)⟩
def Q_pci2_4 (Z : State) (fm : Value) (h0 : Heap) (n0 : Nat) (vR : Option Value) (h : Heap) (L : List Loc) : Prop := vR = some (.int 2) ∧ Fr n0 L ∧ h = h0
theorem ef_pci2_4 (m : MethodId) (x0 : Int32) (x1 : Int32) (x2 : Value) (hx2 : x2.isRef = true) : entryFrame m #[(.int x0), (.int x1), x2] 3 = mkF m 0 #[.val (.int x0), .val (.int x1), .val x2] [] := by rcases ref_cases hx2 with rfl | ⟨y2, rfl⟩ <;> simp [entryFrame, mkF, argsToLocals, Value.category]
set_option maxRecDepth 65536 in
set_option maxHeartbeats 40000000 in
theorem rm_pci2_4 (l : Launch) (Z : State) (a0 : Array Value) (hw : ∀ d ∈ tables_1, d.before a0 Z = true) (ws : List Jvm.Cond) (fm : Value) (h0 : Heap) (n0 : Nat) (Z0 : n0 ≤ h0.size) (hfm : fm.isRef = true) :
    MetFree l (⟨"jdk/internal/util/Preconditions", "checkIndex", "(IILjava/util/function/BiFunction;)I"⟩ : MethodName) (head1 (Jvm.Cond.code (⟨"jdk/internal/util/Preconditions", "checkIndex", "(IILjava/util/function/BiFunction;)I"⟩ : MethodName) jdk_41_method_11_code 3 (some .int) :: ws) ({ frames := 0, cells := 0, slots := 0, locals := 0 } : Room)) (fun a U => a = #[(.int 2), (.int 4), fm] ∧ Z.Warmed39 U.vm ∧ U.heap = h0) (fun _ _ _ _ _ => True) (fun _ U o U' => ∃ v L, o = .returned v ∧ Q_pci2_4 Z fm h0 n0 v U'.heap L ∧ FrameEnd U o U' L ({ frames := 0, cells := 0, slots := 0, locals := 0 } : Room).cells ({ frames := 0, cells := 0, slots := 0, locals := 0 } : Room).slots) := by
  refine MetFree.of_bodySF (plainFor_of_name pn_jdk_internal_util_Preconditions) hisR ?_
  intro p e s m args below meth c s₁ Bd hml0 hP hK
  obtain ⟨rfl, hZ, hh⟩ := hP
  have hx := Bd.exec
  have hby := Bd.bytes
  have hml : c.maxLocals = 3 := hml0
  have hown : s.vm.findClass "jdk/internal/util/Preconditions" = some m.cls := findClass_of_methodNamed Bd.named
  have hnm := (name_of_methodNamed Bd.named Bd.method).1
  have X0 : Stand p l e ({ frames := 0, cells := 0, slots := 0, locals := 0 } : Room) s m #[(.int 2), (.int 4), fm] below meth c s₁ [] 0 0 := Stand.of_body Bd
  have e0 : s₁.heap = h0 := by rw [← hh, Bd.state]; rfl
  have N0 := Fr.nil n0
  refine go_st (fun t k => castTop (ef_pci2_4 m (2 : Int32) (4 : Int32) fm hfm) k) ?_
  show Go _ _ _ _ (s₁.setTop (mkF m 0 #[iv 2, iv 4, .val fm] []))
  refine go_st (fun t k => XS.iloadN X0.here hx rfl (hb hby d42_0) rfl k) ?_
  show Go _ _ _ _ (s₁.setTop (mkF m 1 #[iv 2, iv 4, .val fm] [(.int 2)]))
  refine go_st (fun t k => XS.ifNo X0.here hx rfl (hb hby d42_1) rfl ((if0 _ _).trans (flt ((by decide) : ¬ ((2 : Int32) < (0 : Int32)))).1) k) ?_
  show Go _ _ _ _ (s₁.setTop (mkF m 4 #[iv 2, iv 4, .val fm] []))
  refine go_st (fun t k => XS.iloadN X0.here hx rfl (hb hby d42_4) rfl k) ?_
  show Go _ _ _ _ (s₁.setTop (mkF m 5 #[iv 2, iv 4, .val fm] [(.int 2)]))
  refine go_st (fun t k => XS.iloadN X0.here hx rfl (hb hby d42_5) rfl k) ?_
  show Go _ _ _ _ (s₁.setTop (mkF m 6 #[iv 2, iv 4, .val fm] [(.int 4), (.int 2)]))
  refine go_st (fun t k => XS.icmpYes X0.here hx rfl (pc0 := 6) (pc' := 16) rfl (hb hby d42_6) rfl (tlt ((by decide) : (2 : Int32) < (4 : Int32))).1 (by decide) (by decide) k) ?_
  show Go _ _ _ _ (s₁.setTop (mkF m 16 #[iv 2, iv 4, .val fm] []))
  refine go_st (fun t k => XS.iloadN X0.here hx rfl (hb hby d42_16) rfl k) ?_
  show Go _ _ _ _ (s₁.setTop (mkF m 17 #[iv 2, iv 4, .val fm] [(.int 2)]))
  obtain ⟨fs, hr, hrun, hended, hW, hsame⟩ := X0.leave (v := some (.int 2)) (fun h => by rw [Bd.returns] at h; cases h)
  refine ⟨_, _, ?_, hrun, hended, _, _, rfl, ?_, ⟨_, rfl⟩, hW, hsame.mono (by decide) (by decide)⟩
  · exact retI X0 hx Bd.returns (hb hby d42_17) hr
  · show Q_pci2_4 _ _ _ _ _ s₁.heap _
    rw [e0]
    exact ⟨rfl, N0, rfl⟩
def Q_sci2_4 (Z : State) (fm : Value) (h0 : Heap) (n0 : Nat) (vR : Option Value) (h : Heap) (L : List Loc) : Prop := vR = none ∧ Fr n0 L ∧ h = h0
theorem ef_sci2_4 (m : MethodId) (x0 : Int32) (x1 : Int32) : entryFrame m #[(.int x0), (.int x1)] 2 = mkF m 0 #[.val (.int x0), .val (.int x1)] [] := by first | (simp [entryFrame, mkF, argsToLocals, Value.category]; done) | rfl
set_option maxRecDepth 65536 in
set_option maxHeartbeats 40000000 in
theorem rm_sci2_4 (l : Launch) (Z : State) (a0 : Array Value) (hw : ∀ d ∈ tables_1, d.before a0 Z = true) (ws : List Jvm.Cond) (fm : Value) (h0 : Heap) (n0 : Nat) (Z0 : n0 ≤ h0.size) (hfm : fm.isRef = true) (FS : Sta Z Z.heap "jdk/internal/util/Preconditions" "SIOOBE_FORMATTER" "Ljava/util/function/BiFunction;" fm) (O0 : Old Z n0 h0) :
    MetFree l (⟨"java/lang/String", "checkIndex", "(II)V"⟩ : MethodName) (head1 (Jvm.Cond.code (⟨"java/lang/String", "checkIndex", "(II)V"⟩ : MethodName) jdk_42_method_155_code 2 none :: ws) ({ frames := 1, cells := 0, slots := 0, locals := 14 } : Room)) (fun a U => a = #[(.int 2), (.int 4)] ∧ Z.Warmed39 U.vm ∧ U.heap = h0) (fun _ _ _ _ _ => True) (fun _ U o U' => ∃ v L, o = .returned v ∧ Q_sci2_4 Z fm h0 n0 v U'.heap L ∧ FrameEnd U o U' L ({ frames := 1, cells := 0, slots := 0, locals := 14 } : Room).cells ({ frames := 1, cells := 0, slots := 0, locals := 14 } : Room).slots) := by
  refine MetFree.of_bodySF (plainFor_of_name pn_java_lang_String) hisR ?_
  intro p e s m args below meth c s₁ Bd hml0 hP hK
  obtain ⟨rfl, hZ, hh⟩ := hP
  have hx := Bd.exec
  have hby := Bd.bytes
  have hml : c.maxLocals = 2 := hml0
  have hown : s.vm.findClass "java/lang/String" = some m.cls := findClass_of_methodNamed Bd.named
  have hnm := (name_of_methodNamed Bd.named Bd.method).1
  have X0 : Stand p l e ({ frames := 1, cells := 0, slots := 0, locals := 14 } : Room) s m #[(.int 2), (.int 4)] below meth c s₁ [] 0 0 := Stand.of_body Bd
  have e0 : s₁.heap = h0 := by rw [← hh, Bd.state]; rfl
  have N0 := Fr.nil n0
  refine go_st (fun t k => castTop (ef_sci2_4 m (2 : Int32) (4 : Int32)) k) ?_
  show Go _ _ _ _ (s₁.setTop (mkF m 0 #[iv 2, iv 4] []))
  refine go_st (fun t k => XS.iloadN X0.here hx rfl (hb hby d41_0) rfl k) ?_
  show Go _ _ _ _ (s₁.setTop (mkF m 1 #[iv 2, iv 4] [(.int 2)]))
  refine go_st (fun t k => XS.iloadN X0.here hx rfl (hb hby d41_1) rfl k) ?_
  show Go _ _ _ _ (s₁.setTop (mkF m 2 #[iv 2, iv 4] [(.int 4), (.int 2)]))
  obtain ⟨T1, X1, e1, st1⟩ := getS2 X0 hx hZ hown (host := "") (Or.inl (w259 hw)) Via.refl e0 (Sta.ext O0.2 FS) (g := (mkF m 2 #[iv 2, iv 4] [(.int 4), (.int 2)])) rfl (hb hby d41_2)
  refine go_st (fun t k => st1 t k) ?_
  show Go _ _ _ _ (T1.setTop (mkF m 5 #[iv 2, iv 4] [fm, (.int 4), (.int 2)]))
  obtain ⟨_, _, ⟨T2, L2, kk2, nn2⟩, -, X2, ⟨Lc2, hQ2, lq2, yq2, zq2⟩, st2⟩ := Jvm.LawKit.callS X1 hx (y := (⟨"jdk/internal/util/Preconditions", "checkIndex", "(IILjava/util/function/BiFunction;)I"⟩ : MethodName)) hown (mvT hZ (w261 hw)) (mvT hZ (w262 hw)) (mvT hZ (w260 hw)) (mvT hZ (w263 hw)) (by decide) (backOf (W := 0) (rm_pci2_4 l Z a0 hw [] fm h0 n0 (Nat.le_trans Z0 (Nat.le_refl _)) hfm) hZ (w263 hw) (w260 hw) (by decide) (by decide)) (g := (mkF m 5 #[iv 2, iv 4] [fm, (.int 4), (.int 2)])) rfl (by rw [hml]; rfl) (argsL := [(.int 2), (.int 4), fm]) (rest := []) (lenOf pd_27 rfl) rfl (by show 2 * 0 + _ ≤ _; exact Nat.le_of_eq rfl) (hb hby d41_5) (fun _ _ => ⟨rfl, e1, (by decide : 0 + 0 ≤ _), (by decide : 0 + 0 ≤ _)⟩)
  dsimp only [Pt.U, Pt.locs, Pt.cells, Pt.slots] at X2 lq2 yq2 zq2 st2 hQ2
  obtain rfl : kk2 = 0 := yq2
  obtain rfl : nn2 = 0 := zq2
  obtain ⟨h2, e2⟩ : ∃ z, T2.heap = z := ⟨_, rfl⟩
  rw [e2] at hQ2
  obtain ⟨rfl, N2q, he2⟩ := hQ2
  have N2 : Fr n0 L2 := by rw [lq2]; exact Fr.app N0 N2q
  rw [he2] at e2
  refine go_st st2 ?_
  show Go _ _ _ _ (T2.setTop (mkF m 8 #[iv 2, iv 4] [(.int 2)]))
  refine go_st (fun t k => XS.pop X2.here hx rfl (hb hby d41_8) rfl rfl k) ?_
  show Go _ _ _ _ (T2.setTop (mkF m 9 #[iv 2, iv 4] []))
  obtain ⟨fs, hr, hrun, hended, hW, hsame⟩ := X2.leave (v := none) (fun _ => rfl)
  refine ⟨_, _, ?_, hrun, hended, _, _, rfl, ?_, ⟨_, rfl⟩, hW, hsame.mono (by decide) (by decide)⟩
  · exact X2.returnOut hx Bd.returns (hb hby d41_9) hr
  · show Q_sci2_4 _ _ _ _ _ T2.heap _
    rw [e2]
    exact ⟨rfl, N2, rfl⟩
def Q_lchat4_2 (Z : State) (xt : Addr) (kx : ClassId) (y0 : Int32) (y1 : Int32) (y2 : Int32) (y3 : Int32) (fm : Value) (h0 : Heap) (n0 : Nat) (vR : Option Value) (h : Heap) (L : List Loc) : Prop := ∃ (r : Int32), vR = some (.int (nar .char r)) ∧ Fr n0 L ∧ h = h0 ∧ (r = ((y2 &&& (255 : Int32)).toUInt32.toUInt16.toUInt32.toInt32))
theorem ef_lchat4_2 (m : MethodId) (x0 : Addr) (x1 : Int32) : entryFrame m #[(.ref x0), (.int x1)] 2 = mkF m 0 #[.val (.ref x0), .val (.int x1)] [] := by first | (simp [entryFrame, mkF, argsToLocals, Value.category]; done) | rfl
set_option maxRecDepth 65536 in
set_option maxHeartbeats 40000000 in
theorem rm_lchat4_2 (l : Launch) (Z : State) (a0 : Array Value) (hw : ∀ d ∈ tables_1, d.before a0 Z = true) (ws : List Jvm.Cond) (xt : Addr) (kx : ClassId) (y0 : Int32) (y1 : Int32) (y2 : Int32) (y3 : Int32) (fm : Value) (h0 : Heap) (n0 : Nat) (Z0 : n0 ≤ h0.size) (H0 : Arv Z h0 xt kx .byte (4 : Int32) [(.int y0), (.int y1), (.int y2), (.int y3)] (.int (0 : Int32))) (hfm : fm.isRef = true) (FS : Sta Z Z.heap "jdk/internal/util/Preconditions" "SIOOBE_FORMATTER" "Ljava/util/function/BiFunction;" fm) (O0 : Old Z n0 h0) :
    MetFree l (⟨"java/lang/StringLatin1", "charAt", "([BI)C"⟩ : MethodName) (head1 (Jvm.Cond.code (⟨"java/lang/StringLatin1", "charAt", "([BI)C"⟩ : MethodName) jdk_43_method_2_code 2 (some .char) :: ws) ({ frames := 2, cells := 0, slots := 0, locals := 27 } : Room)) (fun a U => a = #[(.ref xt), (.int 2)] ∧ Z.Warmed39 U.vm ∧ U.heap = h0) (fun _ _ _ _ _ => True) (fun _ U o U' => ∃ v L, o = .returned v ∧ Q_lchat4_2 Z xt kx y0 y1 y2 y3 fm h0 n0 v U'.heap L ∧ FrameEnd U o U' L ({ frames := 2, cells := 0, slots := 0, locals := 27 } : Room).cells ({ frames := 2, cells := 0, slots := 0, locals := 27 } : Room).slots) := by
  refine MetFree.of_bodySF (plainFor_of_name pn_java_lang_StringLatin1) hisR ?_
  intro p e s m args below meth c s₁ Bd hml0 hP hK
  obtain ⟨rfl, hZ, hh⟩ := hP
  have hx := Bd.exec
  have hby := Bd.bytes
  have hml : c.maxLocals = 2 := hml0
  have hown : s.vm.findClass "java/lang/StringLatin1" = some m.cls := findClass_of_methodNamed Bd.named
  have hnm := (name_of_methodNamed Bd.named Bd.method).1
  have X0 : Stand p l e ({ frames := 2, cells := 0, slots := 0, locals := 27 } : Room) s m #[(.ref xt), (.int 2)] below meth c s₁ [] 0 0 := Stand.of_body Bd
  have e0 : s₁.heap = h0 := by rw [← hh, Bd.state]; rfl
  have N0 := Fr.nil n0
  refine go_st (fun t k => castTop (ef_lchat4_2 m xt (2 : Int32)) k) ?_
  show Go _ _ _ _ (s₁.setTop (mkF m 0 #[rv xt, iv 2] []))
  refine go_st (fun t k => XS.iloadN X0.here hx rfl (hb hby d40_0) rfl k) ?_
  show Go _ _ _ _ (s₁.setTop (mkF m 1 #[rv xt, iv 2] [(.int 2)]))
  refine go_st (fun t k => XS.aloadN X0.here hx rfl (hb hby d40_1) rfl rfl k) ?_
  show Go _ _ _ _ (s₁.setTop (mkF m 2 #[rv xt, iv 2] [(.ref xt), (.int 2)]))
  obtain ⟨zc1, zA1, zq1, zS1, zN1, zH1, zG1⟩ := id H0
  refine go_st (fun t k => X0.arraylength hx (by rw [e0]; exact zA1.1) (State.isArrayOf_alike hZ.alike zA1.2.1) (g := (mkF m 2 #[rv xt, iv 2] [(.ref xt), (.int 2)])) rfl rfl (hb hby d40_2) t k) ?_
  rw [len_of zS1 zN1]
  show Go _ _ _ _ (s₁.setTop (mkF m 3 #[rv xt, iv 2] [(.int 4), (.int 2)]))
  obtain ⟨_, _, ⟨T2, L2, kk2, nn2⟩, -, X2, ⟨Lc2, hQ2, lq2, yq2, zq2⟩, st2⟩ := Jvm.LawKit.callS X0 hx (y := (⟨"java/lang/String", "checkIndex", "(II)V"⟩ : MethodName)) hown (mvT hZ (w256 hw)) (mvT hZ (w257 hw)) (mvT hZ (w11 hw)) (mvT hZ (w258 hw)) (by decide) (backOf (W := 0) (rm_sci2_4 l Z a0 hw [] fm h0 n0 (Nat.le_trans Z0 (Nat.le_refl _)) hfm FS O0) hZ (w258 hw) (w11 hw) (by decide) (by decide)) (g := (mkF m 3 #[rv xt, iv 2] [(.int 4), (.int 2)])) rfl (by rw [hml]; rfl) (argsL := [(.int 2), (.int 4)]) (rest := []) (lenOf pd_12 rfl) rfl (by show 2 * 0 + _ ≤ _; exact Nat.le_of_eq rfl) (hb hby d40_3) (fun _ _ => ⟨rfl, e0, (by decide : 0 + 0 ≤ _), (by decide : 0 + 0 ≤ _)⟩)
  dsimp only [Pt.U, Pt.locs, Pt.cells, Pt.slots] at X2 lq2 yq2 zq2 st2 hQ2
  obtain rfl : kk2 = 0 := yq2
  obtain rfl : nn2 = 0 := zq2
  obtain ⟨h2, e2⟩ : ∃ z, T2.heap = z := ⟨_, rfl⟩
  rw [e2] at hQ2
  obtain ⟨rfl, N2q, he2⟩ := hQ2
  have N2 : Fr n0 L2 := by rw [lq2]; exact Fr.app N0 N2q
  rw [he2] at e2
  refine go_st st2 ?_
  show Go _ _ _ _ (T2.setTop (mkF m 6 #[rv xt, iv 2] []))
  refine go_st (fun t k => XS.aloadN X2.here hx rfl (hb hby d40_6) rfl rfl k) ?_
  show Go _ _ _ _ (T2.setTop (mkF m 7 #[rv xt, iv 2] [(.ref xt)]))
  refine go_st (fun t k => XS.iloadN X2.here hx rfl (hb hby d40_7) rfl k) ?_
  show Go _ _ _ _ (T2.setTop (mkF m 8 #[rv xt, iv 2] [(.int 2), (.ref xt)]))
  obtain ⟨zc3, zA3, zq3, zS3, zN3, zH3, zG3⟩ := id H0
  have hin3 : ¬ ((2 : Int32) < 0 ∨ zc3.slots.size ≤ ((2 : Int32)).toNatClampNeg) := inb_of zS3 ⟨by decide, by decide⟩
  have hat3 : zc3.slots[((2 : Int32)).toNatClampNeg]? = some (.int y2) := Has.at zH3 hin3 rfl
  refine go_st (fun t k => X2.baloadBytes hx (j := (2 : Int32)) (v := (.int y2)) (by rw [e2]; exact zA3.1) (State.isArrayOf_alike hZ.alike zA3.2.1) zA3.2.2 hin3 hat3 (g := (mkF m 8 #[rv xt, iv 2] [(.int 2), (.ref xt)])) rfl rfl (hb hby d40_8) t k) ?_
  show Go _ _ _ _ (T2.setTop (mkF m 9 #[rv xt, iv 2] [(.int y2)]))
  refine go_st (fun t k => XS.sipush X2.here hx rfl (hb hby d40_9) k) ?_
  show Go _ _ _ _ (T2.setTop (mkF m 12 #[rv xt, iv 2] [(.int 255), (.int y2)]))
  refine go_st (fun t k => XS.iand X2.here hx rfl (hb hby d40_12) rfl k) ?_
  show Go _ _ _ _ (T2.setTop (mkF m 13 #[rv xt, iv 2] [(.int (y2 &&& (255 : Int32)))]))
  refine go_st (fun t k => XS.i2c X2.here hx rfl (hb hby d40_13) rfl k) ?_
  show Go _ _ _ _ (T2.setTop (mkF m 14 #[rv xt, iv 2] [(.int (((y2 &&& (255 : Int32))).toUInt32.toUInt16.toUInt32.toInt32))]))
  obtain ⟨fs, hr, hrun, hended, hW, hsame⟩ := X2.leave (v := some (.int (nar .char (((y2 &&& (255 : Int32))).toUInt32.toUInt16.toUInt32.toInt32)))) (fun h => by rw [Bd.returns] at h; cases h)
  refine ⟨_, _, ?_, hrun, hended, _, _, rfl, ?_, ⟨_, rfl⟩, hW, hsame.mono (by decide) (by decide)⟩
  · exact retN X2 hx (t := .char) Bd.returns (by simp) (hb hby d40_14) hr
  · show Q_lchat4_2 _ _ _ _ _ _ _ _ _ _ _ T2.heap _
    rw [e2]
    exact ⟨(((y2 &&& (255 : Int32))).toUInt32.toUInt16.toUInt32.toInt32), rfl, N2, rfl, rfl⟩
def Q_chat4_2 (Z : State) (xs : Addr) (xt : Addr) (kx : ClassId) (y0 : Int32) (y1 : Int32) (y2 : Int32) (y3 : Int32) (fm : Value) (G1 : Int32) (h0 : Heap) (n0 : Nat) (vR : Option Value) (h : Heap) (L : List Loc) : Prop := ∃ (r : Int32), vR = some (.int (nar .char r)) ∧ Fr n0 L ∧ h = h0 ∧ (r = nar .char ((y2 &&& (255 : Int32)).toUInt32.toUInt16.toUInt32.toInt32))
theorem ef_chat4_2 (m : MethodId) (x0 : Addr) (x1 : Int32) : entryFrame m #[(.ref x0), (.int x1)] 2 = mkF m 0 #[.val (.ref x0), .val (.int x1)] [] := by first | (simp [entryFrame, mkF, argsToLocals, Value.category]; done) | rfl
set_option maxRecDepth 65536 in
set_option maxHeartbeats 40000000 in
theorem rm_chat4_2 (l : Launch) (Z : State) (a0 : Array Value) (hw : ∀ d ∈ tables_1, d.before a0 Z = true) (ws : List Jvm.Cond) (xs : Addr) (xt : Addr) (kx : ClassId) (y0 : Int32) (y1 : Int32) (y2 : Int32) (y3 : Int32) (fm : Value) (G1 : Int32) (h0 : Heap) (n0 : Nat) (Z0 : n0 ≤ h0.size) (H0 : Exa Z h0 xs "java/lang/String") (H1 : Fld Z h0 xs "java/lang/String" "value" "[B" (.ref xt)) (H2 : Fld Z h0 xs "java/lang/String" "coder" "B" (.int 0)) (H3 : Arv Z h0 xt kx .byte (4 : Int32) [(.int y0), (.int y1), (.int y2), (.int y3)] (.int (0 : Int32))) (hfm : fm.isRef = true) (FS : Sta Z Z.heap "jdk/internal/util/Preconditions" "SIOOBE_FORMATTER" "Ljava/util/function/BiFunction;" fm) (CS : Sta Z Z.heap "java/lang/String" "COMPACT_STRINGS" "Z" (.int G1)) (CSn : ¬ (G1 = (0 : Int32))) (O0 : Old Z n0 h0) :
    MetFree l (⟨"java/lang/String", "charAt", "(I)C"⟩ : MethodName) (head1 (Jvm.Cond.code (⟨"java/lang/String", "charAt", "(I)C"⟩ : MethodName) jdk_42_method_56_code 2 (some .char) :: ws) ({ frames := 3, cells := 0, slots := 0, locals := 40 } : Room)) (fun a U => a = #[(.ref xs), (.int 2)] ∧ Z.Warmed39 U.vm ∧ U.heap = h0) (fun _ _ _ _ _ => True) (fun _ U o U' => ∃ v L, o = .returned v ∧ Q_chat4_2 Z xs xt kx y0 y1 y2 y3 fm G1 h0 n0 v U'.heap L ∧ FrameEnd U o U' L ({ frames := 3, cells := 0, slots := 0, locals := 40 } : Room).cells ({ frames := 3, cells := 0, slots := 0, locals := 40 } : Room).slots) := by
  refine MetFree.of_bodySF (plainFor_of_name pn_java_lang_String) hisR ?_
  intro p e s m args below meth c s₁ Bd hml0 hP hK
  obtain ⟨rfl, hZ, hh⟩ := hP
  have hx := Bd.exec
  have hby := Bd.bytes
  have hml : c.maxLocals = 2 := hml0
  have hown : s.vm.findClass "java/lang/String" = some m.cls := findClass_of_methodNamed Bd.named
  have hnm := (name_of_methodNamed Bd.named Bd.method).1
  have X0 : Stand p l e ({ frames := 3, cells := 0, slots := 0, locals := 40 } : Room) s m #[(.ref xs), (.int 2)] below meth c s₁ [] 0 0 := Stand.of_body Bd
  have e0 : s₁.heap = h0 := by rw [← hh, Bd.state]; rfl
  have N0 := Fr.nil n0
  refine go_st (fun t k => castTop (ef_chat4_2 m xs (2 : Int32)) k) ?_
  show Go _ _ _ _ (s₁.setTop (mkF m 0 #[rv xs, iv 2] []))
  refine go_st (fun t k => XS.aloadN X0.here hx rfl (hb hby d38_0) rfl rfl k) ?_
  show Go _ _ _ _ (s₁.setTop (mkF m 1 #[rv xs, iv 2] [(.ref xs)]))
  obtain ⟨cq1, kq1, q1a, q1b, q1c⟩ := isOf hZ e0 H0
  obtain ⟨_, _, ⟨T1, L1, kk1, nn1⟩, -, X1, ⟨Lc1, hQ1, lq1, yq1, zq1⟩, st1⟩ := X0.virtualBack hx (y := (⟨"java/lang/String", "isLatin1", "()Z"⟩ : MethodName)) (z := (⟨"java/lang/String", "isLatin1", "()Z"⟩ : MethodName)) hown (mvT hZ (w248 hw)) (mvT hZ (w249 hw)) (nf_same (y := (⟨"java/lang/String", "isLatin1", "()Z"⟩ : MethodName)) (y' := (⟨"java/lang/String", "equals", "(Ljava/lang/Object;)Z"⟩ : MethodName)) (a0 := #[]) rfl (mvT hZ (w75 hw)) (notFace_of_selects (args := #[]) (mvT hZ (w76 hw)))) (mvT hZ (w251 hw)) (mvT hZ (w250 hw)) (by decide) (backOf (W := 0) (rm_sisl l Z a0 hw [] xs G1 h0 n0 (Nat.le_trans Z0 (Nat.le_refl _)) H2 CS CSn O0) hZ (w252 hw) (w11 hw) (by decide) (by decide)) q1a q1c (g := (mkF m 1 #[rv xs, iv 2] [(.ref xs)])) rfl (by rw [hml]; rfl) (Steps.refl _) (argsL := []) (rest := []) (lenOf pd_2 rfl) rfl (by show 2 * 0 + _ ≤ _; exact Nat.le_of_eq rfl) (hb hby d38_1) (fun _ _ => ⟨rfl, e0, (by decide : 0 + 0 ≤ _), (by decide : 0 + 0 ≤ _)⟩)
  dsimp only [Pt.U, Pt.locs, Pt.cells, Pt.slots] at X1 lq1 yq1 zq1 st1 hQ1
  obtain rfl : kk1 = 0 := yq1
  obtain rfl : nn1 = 0 := zq1
  obtain ⟨h1, e1⟩ : ∃ z, T1.heap = z := ⟨_, rfl⟩
  rw [e1] at hQ1
  obtain ⟨rfl, N1q, he1⟩ := hQ1
  have N1 : Fr n0 L1 := by rw [lq1]; exact Fr.app N0 N1q
  rw [he1] at e1
  refine go_tr st1 ?_
  show Go _ _ _ _ (T1.setTop (mkF m 4 #[rv xs, iv 2] [(.int 1)]))
  refine go_st (fun t k => XS.ifNo X1.here hx rfl (hb hby d38_4) rfl ((if0 _ _).trans (feq ((by decide) : ¬ ((1 : Int32) = (0 : Int32)))).1) k) ?_
  show Go _ _ _ _ (T1.setTop (mkF m 7 #[rv xs, iv 2] []))
  refine go_st (fun t k => XS.aloadN X1.here hx rfl (hb hby d38_7) rfl rfl k) ?_
  show Go _ _ _ _ (T1.setTop (mkF m 8 #[rv xs, iv 2] [(.ref xs)]))
  obtain ⟨T2, X2, e2, st2⟩ := getF X1 hx hZ hown (host := "") (Or.inl (w36 hw)) Via.refl e1 H1 (g := (mkF m 8 #[rv xs, iv 2] [(.ref xs)])) rfl rfl (hb hby d38_8)
  refine go_st (fun t k => st2 t k) ?_
  show Go _ _ _ _ (T2.setTop (mkF m 11 #[rv xs, iv 2] [(.ref xt)]))
  refine go_st (fun t k => XS.iloadN X2.here hx rfl (hb hby d38_11) rfl k) ?_
  show Go _ _ _ _ (T2.setTop (mkF m 12 #[rv xs, iv 2] [(.int 2), (.ref xt)]))
  obtain ⟨_, _, ⟨T3, L3, kk3, nn3⟩, -, X3, ⟨Lc3, hQ3, lq3, yq3, zq3⟩, st3⟩ := Jvm.LawKit.callS X2 hx (y := (⟨"java/lang/StringLatin1", "charAt", "([BI)C"⟩ : MethodName)) hown (mvT hZ (w253 hw)) (mvT hZ (w254 hw)) (mvT hZ (w122 hw)) (mvT hZ (w255 hw)) (by decide) (backOf (W := 0) (rm_lchat4_2 l Z a0 hw [] xt kx y0 y1 y2 y3 fm h0 n0 (Nat.le_trans Z0 (Nat.le_refl _)) H3 hfm FS O0) hZ (w255 hw) (w122 hw) (by decide) (by decide)) (g := (mkF m 12 #[rv xs, iv 2] [(.int 2), (.ref xt)])) rfl (by rw [hml]; rfl) (argsL := [(.ref xt), (.int 2)]) (rest := []) (lenOf pd_28 rfl) rfl (by show 2 * 0 + _ ≤ _; exact Nat.le_of_eq rfl) (hb hby d38_12) (fun _ _ => ⟨rfl, e2, (by decide : 0 + 0 ≤ _), (by decide : 0 + 0 ≤ _)⟩)
  dsimp only [Pt.U, Pt.locs, Pt.cells, Pt.slots] at X3 lq3 yq3 zq3 st3 hQ3
  obtain rfl : kk3 = 0 := yq3
  obtain rfl : nn3 = 0 := zq3
  obtain ⟨h3, e3⟩ : ∃ z, T3.heap = z := ⟨_, rfl⟩
  rw [e3] at hQ3
  obtain ⟨r_3, rfl, N3q, he3, hr_3⟩ := hQ3
  have N3 : Fr n0 L3 := by rw [lq3]; exact Fr.app N1 N3q
  rw [he3] at e3
  refine go_st st3 ?_
  show Go _ _ _ _ (T3.setTop (mkF m 15 #[rv xs, iv 2] [(.int (nar .char r_3))]))
  obtain ⟨fs, hr, hrun, hended, hW, hsame⟩ := X3.leave (v := some (.int (nar .char (nar .char r_3)))) (fun h => by rw [Bd.returns] at h; cases h)
  refine ⟨_, _, ?_, hrun, hended, _, _, rfl, ?_, ⟨_, rfl⟩, hW, hsame.mono (by decide) (by decide)⟩
  · exact retN X3 hx (t := .char) Bd.returns (by simp) (hb hby d38_15) hr
  · show Q_chat4_2 _ _ _ _ _ _ _ _ _ _ _ _ _ T3.heap _
    rw [e3]
    exact ⟨(nar .char r_3), rfl, N3, rfl, (congrArg (nar .char) hr_3)⟩
def Q_pci3_4 (Z : State) (fm : Value) (h0 : Heap) (n0 : Nat) (vR : Option Value) (h : Heap) (L : List Loc) : Prop := vR = some (.int 3) ∧ Fr n0 L ∧ h = h0
theorem ef_pci3_4 (m : MethodId) (x0 : Int32) (x1 : Int32) (x2 : Value) (hx2 : x2.isRef = true) : entryFrame m #[(.int x0), (.int x1), x2] 3 = mkF m 0 #[.val (.int x0), .val (.int x1), .val x2] [] := by rcases ref_cases hx2 with rfl | ⟨y2, rfl⟩ <;> simp [entryFrame, mkF, argsToLocals, Value.category]
set_option maxRecDepth 65536 in
set_option maxHeartbeats 40000000 in
theorem rm_pci3_4 (l : Launch) (Z : State) (a0 : Array Value) (hw : ∀ d ∈ tables_1, d.before a0 Z = true) (ws : List Jvm.Cond) (fm : Value) (h0 : Heap) (n0 : Nat) (Z0 : n0 ≤ h0.size) (hfm : fm.isRef = true) :
    MetFree l (⟨"jdk/internal/util/Preconditions", "checkIndex", "(IILjava/util/function/BiFunction;)I"⟩ : MethodName) (head1 (Jvm.Cond.code (⟨"jdk/internal/util/Preconditions", "checkIndex", "(IILjava/util/function/BiFunction;)I"⟩ : MethodName) jdk_41_method_11_code 3 (some .int) :: ws) ({ frames := 0, cells := 0, slots := 0, locals := 0 } : Room)) (fun a U => a = #[(.int 3), (.int 4), fm] ∧ Z.Warmed39 U.vm ∧ U.heap = h0) (fun _ _ _ _ _ => True) (fun _ U o U' => ∃ v L, o = .returned v ∧ Q_pci3_4 Z fm h0 n0 v U'.heap L ∧ FrameEnd U o U' L ({ frames := 0, cells := 0, slots := 0, locals := 0 } : Room).cells ({ frames := 0, cells := 0, slots := 0, locals := 0 } : Room).slots) := by
  refine MetFree.of_bodySF (plainFor_of_name pn_jdk_internal_util_Preconditions) hisR ?_
  intro p e s m args below meth c s₁ Bd hml0 hP hK
  obtain ⟨rfl, hZ, hh⟩ := hP
  have hx := Bd.exec
  have hby := Bd.bytes
  have hml : c.maxLocals = 3 := hml0
  have hown : s.vm.findClass "jdk/internal/util/Preconditions" = some m.cls := findClass_of_methodNamed Bd.named
  have hnm := (name_of_methodNamed Bd.named Bd.method).1
  have X0 : Stand p l e ({ frames := 0, cells := 0, slots := 0, locals := 0 } : Room) s m #[(.int 3), (.int 4), fm] below meth c s₁ [] 0 0 := Stand.of_body Bd
  have e0 : s₁.heap = h0 := by rw [← hh, Bd.state]; rfl
  have N0 := Fr.nil n0
  refine go_st (fun t k => castTop (ef_pci3_4 m (3 : Int32) (4 : Int32) fm hfm) k) ?_
  show Go _ _ _ _ (s₁.setTop (mkF m 0 #[iv 3, iv 4, .val fm] []))
  refine go_st (fun t k => XS.iloadN X0.here hx rfl (hb hby d42_0) rfl k) ?_
  show Go _ _ _ _ (s₁.setTop (mkF m 1 #[iv 3, iv 4, .val fm] [(.int 3)]))
  refine go_st (fun t k => XS.ifNo X0.here hx rfl (hb hby d42_1) rfl ((if0 _ _).trans (flt ((by decide) : ¬ ((3 : Int32) < (0 : Int32)))).1) k) ?_
  show Go _ _ _ _ (s₁.setTop (mkF m 4 #[iv 3, iv 4, .val fm] []))
  refine go_st (fun t k => XS.iloadN X0.here hx rfl (hb hby d42_4) rfl k) ?_
  show Go _ _ _ _ (s₁.setTop (mkF m 5 #[iv 3, iv 4, .val fm] [(.int 3)]))
  refine go_st (fun t k => XS.iloadN X0.here hx rfl (hb hby d42_5) rfl k) ?_
  show Go _ _ _ _ (s₁.setTop (mkF m 6 #[iv 3, iv 4, .val fm] [(.int 4), (.int 3)]))
  refine go_st (fun t k => XS.icmpYes X0.here hx rfl (pc0 := 6) (pc' := 16) rfl (hb hby d42_6) rfl (tlt ((by decide) : (3 : Int32) < (4 : Int32))).1 (by decide) (by decide) k) ?_
  show Go _ _ _ _ (s₁.setTop (mkF m 16 #[iv 3, iv 4, .val fm] []))
  refine go_st (fun t k => XS.iloadN X0.here hx rfl (hb hby d42_16) rfl k) ?_
  show Go _ _ _ _ (s₁.setTop (mkF m 17 #[iv 3, iv 4, .val fm] [(.int 3)]))
  obtain ⟨fs, hr, hrun, hended, hW, hsame⟩ := X0.leave (v := some (.int 3)) (fun h => by rw [Bd.returns] at h; cases h)
  refine ⟨_, _, ?_, hrun, hended, _, _, rfl, ?_, ⟨_, rfl⟩, hW, hsame.mono (by decide) (by decide)⟩
  · exact retI X0 hx Bd.returns (hb hby d42_17) hr
  · show Q_pci3_4 _ _ _ _ _ s₁.heap _
    rw [e0]
    exact ⟨rfl, N0, rfl⟩
def Q_sci3_4 (Z : State) (fm : Value) (h0 : Heap) (n0 : Nat) (vR : Option Value) (h : Heap) (L : List Loc) : Prop := vR = none ∧ Fr n0 L ∧ h = h0
theorem ef_sci3_4 (m : MethodId) (x0 : Int32) (x1 : Int32) : entryFrame m #[(.int x0), (.int x1)] 2 = mkF m 0 #[.val (.int x0), .val (.int x1)] [] := by first | (simp [entryFrame, mkF, argsToLocals, Value.category]; done) | rfl
set_option maxRecDepth 65536 in
set_option maxHeartbeats 40000000 in
theorem rm_sci3_4 (l : Launch) (Z : State) (a0 : Array Value) (hw : ∀ d ∈ tables_1, d.before a0 Z = true) (ws : List Jvm.Cond) (fm : Value) (h0 : Heap) (n0 : Nat) (Z0 : n0 ≤ h0.size) (hfm : fm.isRef = true) (FS : Sta Z Z.heap "jdk/internal/util/Preconditions" "SIOOBE_FORMATTER" "Ljava/util/function/BiFunction;" fm) (O0 : Old Z n0 h0) :
    MetFree l (⟨"java/lang/String", "checkIndex", "(II)V"⟩ : MethodName) (head1 (Jvm.Cond.code (⟨"java/lang/String", "checkIndex", "(II)V"⟩ : MethodName) jdk_42_method_155_code 2 none :: ws) ({ frames := 1, cells := 0, slots := 0, locals := 14 } : Room)) (fun a U => a = #[(.int 3), (.int 4)] ∧ Z.Warmed39 U.vm ∧ U.heap = h0) (fun _ _ _ _ _ => True) (fun _ U o U' => ∃ v L, o = .returned v ∧ Q_sci3_4 Z fm h0 n0 v U'.heap L ∧ FrameEnd U o U' L ({ frames := 1, cells := 0, slots := 0, locals := 14 } : Room).cells ({ frames := 1, cells := 0, slots := 0, locals := 14 } : Room).slots) := by
  refine MetFree.of_bodySF (plainFor_of_name pn_java_lang_String) hisR ?_
  intro p e s m args below meth c s₁ Bd hml0 hP hK
  obtain ⟨rfl, hZ, hh⟩ := hP
  have hx := Bd.exec
  have hby := Bd.bytes
  have hml : c.maxLocals = 2 := hml0
  have hown : s.vm.findClass "java/lang/String" = some m.cls := findClass_of_methodNamed Bd.named
  have hnm := (name_of_methodNamed Bd.named Bd.method).1
  have X0 : Stand p l e ({ frames := 1, cells := 0, slots := 0, locals := 14 } : Room) s m #[(.int 3), (.int 4)] below meth c s₁ [] 0 0 := Stand.of_body Bd
  have e0 : s₁.heap = h0 := by rw [← hh, Bd.state]; rfl
  have N0 := Fr.nil n0
  refine go_st (fun t k => castTop (ef_sci3_4 m (3 : Int32) (4 : Int32)) k) ?_
  show Go _ _ _ _ (s₁.setTop (mkF m 0 #[iv 3, iv 4] []))
  refine go_st (fun t k => XS.iloadN X0.here hx rfl (hb hby d41_0) rfl k) ?_
  show Go _ _ _ _ (s₁.setTop (mkF m 1 #[iv 3, iv 4] [(.int 3)]))
  refine go_st (fun t k => XS.iloadN X0.here hx rfl (hb hby d41_1) rfl k) ?_
  show Go _ _ _ _ (s₁.setTop (mkF m 2 #[iv 3, iv 4] [(.int 4), (.int 3)]))
  obtain ⟨T1, X1, e1, st1⟩ := getS2 X0 hx hZ hown (host := "") (Or.inl (w259 hw)) Via.refl e0 (Sta.ext O0.2 FS) (g := (mkF m 2 #[iv 3, iv 4] [(.int 4), (.int 3)])) rfl (hb hby d41_2)
  refine go_st (fun t k => st1 t k) ?_
  show Go _ _ _ _ (T1.setTop (mkF m 5 #[iv 3, iv 4] [fm, (.int 4), (.int 3)]))
  obtain ⟨_, _, ⟨T2, L2, kk2, nn2⟩, -, X2, ⟨Lc2, hQ2, lq2, yq2, zq2⟩, st2⟩ := Jvm.LawKit.callS X1 hx (y := (⟨"jdk/internal/util/Preconditions", "checkIndex", "(IILjava/util/function/BiFunction;)I"⟩ : MethodName)) hown (mvT hZ (w261 hw)) (mvT hZ (w262 hw)) (mvT hZ (w260 hw)) (mvT hZ (w263 hw)) (by decide) (backOf (W := 0) (rm_pci3_4 l Z a0 hw [] fm h0 n0 (Nat.le_trans Z0 (Nat.le_refl _)) hfm) hZ (w263 hw) (w260 hw) (by decide) (by decide)) (g := (mkF m 5 #[iv 3, iv 4] [fm, (.int 4), (.int 3)])) rfl (by rw [hml]; rfl) (argsL := [(.int 3), (.int 4), fm]) (rest := []) (lenOf pd_27 rfl) rfl (by show 2 * 0 + _ ≤ _; exact Nat.le_of_eq rfl) (hb hby d41_5) (fun _ _ => ⟨rfl, e1, (by decide : 0 + 0 ≤ _), (by decide : 0 + 0 ≤ _)⟩)
  dsimp only [Pt.U, Pt.locs, Pt.cells, Pt.slots] at X2 lq2 yq2 zq2 st2 hQ2
  obtain rfl : kk2 = 0 := yq2
  obtain rfl : nn2 = 0 := zq2
  obtain ⟨h2, e2⟩ : ∃ z, T2.heap = z := ⟨_, rfl⟩
  rw [e2] at hQ2
  obtain ⟨rfl, N2q, he2⟩ := hQ2
  have N2 : Fr n0 L2 := by rw [lq2]; exact Fr.app N0 N2q
  rw [he2] at e2
  refine go_st st2 ?_
  show Go _ _ _ _ (T2.setTop (mkF m 8 #[iv 3, iv 4] [(.int 3)]))
  refine go_st (fun t k => XS.pop X2.here hx rfl (hb hby d41_8) rfl rfl k) ?_
  show Go _ _ _ _ (T2.setTop (mkF m 9 #[iv 3, iv 4] []))
  obtain ⟨fs, hr, hrun, hended, hW, hsame⟩ := X2.leave (v := none) (fun _ => rfl)
  refine ⟨_, _, ?_, hrun, hended, _, _, rfl, ?_, ⟨_, rfl⟩, hW, hsame.mono (by decide) (by decide)⟩
  · exact X2.returnOut hx Bd.returns (hb hby d41_9) hr
  · show Q_sci3_4 _ _ _ _ _ T2.heap _
    rw [e2]
    exact ⟨rfl, N2, rfl⟩
def Q_lchat4_3 (Z : State) (xt : Addr) (kx : ClassId) (y0 : Int32) (y1 : Int32) (y2 : Int32) (y3 : Int32) (fm : Value) (h0 : Heap) (n0 : Nat) (vR : Option Value) (h : Heap) (L : List Loc) : Prop := ∃ (r : Int32), vR = some (.int (nar .char r)) ∧ Fr n0 L ∧ h = h0 ∧ (r = ((y3 &&& (255 : Int32)).toUInt32.toUInt16.toUInt32.toInt32))
theorem ef_lchat4_3 (m : MethodId) (x0 : Addr) (x1 : Int32) : entryFrame m #[(.ref x0), (.int x1)] 2 = mkF m 0 #[.val (.ref x0), .val (.int x1)] [] := by first | (simp [entryFrame, mkF, argsToLocals, Value.category]; done) | rfl
set_option maxRecDepth 65536 in
set_option maxHeartbeats 40000000 in
theorem rm_lchat4_3 (l : Launch) (Z : State) (a0 : Array Value) (hw : ∀ d ∈ tables_1, d.before a0 Z = true) (ws : List Jvm.Cond) (xt : Addr) (kx : ClassId) (y0 : Int32) (y1 : Int32) (y2 : Int32) (y3 : Int32) (fm : Value) (h0 : Heap) (n0 : Nat) (Z0 : n0 ≤ h0.size) (H0 : Arv Z h0 xt kx .byte (4 : Int32) [(.int y0), (.int y1), (.int y2), (.int y3)] (.int (0 : Int32))) (hfm : fm.isRef = true) (FS : Sta Z Z.heap "jdk/internal/util/Preconditions" "SIOOBE_FORMATTER" "Ljava/util/function/BiFunction;" fm) (O0 : Old Z n0 h0) :
    MetFree l (⟨"java/lang/StringLatin1", "charAt", "([BI)C"⟩ : MethodName) (head1 (Jvm.Cond.code (⟨"java/lang/StringLatin1", "charAt", "([BI)C"⟩ : MethodName) jdk_43_method_2_code 2 (some .char) :: ws) ({ frames := 2, cells := 0, slots := 0, locals := 27 } : Room)) (fun a U => a = #[(.ref xt), (.int 3)] ∧ Z.Warmed39 U.vm ∧ U.heap = h0) (fun _ _ _ _ _ => True) (fun _ U o U' => ∃ v L, o = .returned v ∧ Q_lchat4_3 Z xt kx y0 y1 y2 y3 fm h0 n0 v U'.heap L ∧ FrameEnd U o U' L ({ frames := 2, cells := 0, slots := 0, locals := 27 } : Room).cells ({ frames := 2, cells := 0, slots := 0, locals := 27 } : Room).slots) := by
  refine MetFree.of_bodySF (plainFor_of_name pn_java_lang_StringLatin1) hisR ?_
  intro p e s m args below meth c s₁ Bd hml0 hP hK
  obtain ⟨rfl, hZ, hh⟩ := hP
  have hx := Bd.exec
  have hby := Bd.bytes
  have hml : c.maxLocals = 2 := hml0
  have hown : s.vm.findClass "java/lang/StringLatin1" = some m.cls := findClass_of_methodNamed Bd.named
  have hnm := (name_of_methodNamed Bd.named Bd.method).1
  have X0 : Stand p l e ({ frames := 2, cells := 0, slots := 0, locals := 27 } : Room) s m #[(.ref xt), (.int 3)] below meth c s₁ [] 0 0 := Stand.of_body Bd
  have e0 : s₁.heap = h0 := by rw [← hh, Bd.state]; rfl
  have N0 := Fr.nil n0
  refine go_st (fun t k => castTop (ef_lchat4_3 m xt (3 : Int32)) k) ?_
  show Go _ _ _ _ (s₁.setTop (mkF m 0 #[rv xt, iv 3] []))
  refine go_st (fun t k => XS.iloadN X0.here hx rfl (hb hby d40_0) rfl k) ?_
  show Go _ _ _ _ (s₁.setTop (mkF m 1 #[rv xt, iv 3] [(.int 3)]))
  refine go_st (fun t k => XS.aloadN X0.here hx rfl (hb hby d40_1) rfl rfl k) ?_
  show Go _ _ _ _ (s₁.setTop (mkF m 2 #[rv xt, iv 3] [(.ref xt), (.int 3)]))
  obtain ⟨zc1, zA1, zq1, zS1, zN1, zH1, zG1⟩ := id H0
  refine go_st (fun t k => X0.arraylength hx (by rw [e0]; exact zA1.1) (State.isArrayOf_alike hZ.alike zA1.2.1) (g := (mkF m 2 #[rv xt, iv 3] [(.ref xt), (.int 3)])) rfl rfl (hb hby d40_2) t k) ?_
  rw [len_of zS1 zN1]
  show Go _ _ _ _ (s₁.setTop (mkF m 3 #[rv xt, iv 3] [(.int 4), (.int 3)]))
  obtain ⟨_, _, ⟨T2, L2, kk2, nn2⟩, -, X2, ⟨Lc2, hQ2, lq2, yq2, zq2⟩, st2⟩ := Jvm.LawKit.callS X0 hx (y := (⟨"java/lang/String", "checkIndex", "(II)V"⟩ : MethodName)) hown (mvT hZ (w256 hw)) (mvT hZ (w257 hw)) (mvT hZ (w11 hw)) (mvT hZ (w258 hw)) (by decide) (backOf (W := 0) (rm_sci3_4 l Z a0 hw [] fm h0 n0 (Nat.le_trans Z0 (Nat.le_refl _)) hfm FS O0) hZ (w258 hw) (w11 hw) (by decide) (by decide)) (g := (mkF m 3 #[rv xt, iv 3] [(.int 4), (.int 3)])) rfl (by rw [hml]; rfl) (argsL := [(.int 3), (.int 4)]) (rest := []) (lenOf pd_12 rfl) rfl (by show 2 * 0 + _ ≤ _; exact Nat.le_of_eq rfl) (hb hby d40_3) (fun _ _ => ⟨rfl, e0, (by decide : 0 + 0 ≤ _), (by decide : 0 + 0 ≤ _)⟩)
  dsimp only [Pt.U, Pt.locs, Pt.cells, Pt.slots] at X2 lq2 yq2 zq2 st2 hQ2
  obtain rfl : kk2 = 0 := yq2
  obtain rfl : nn2 = 0 := zq2
  obtain ⟨h2, e2⟩ : ∃ z, T2.heap = z := ⟨_, rfl⟩
  rw [e2] at hQ2
  obtain ⟨rfl, N2q, he2⟩ := hQ2
  have N2 : Fr n0 L2 := by rw [lq2]; exact Fr.app N0 N2q
  rw [he2] at e2
  refine go_st st2 ?_
  show Go _ _ _ _ (T2.setTop (mkF m 6 #[rv xt, iv 3] []))
  refine go_st (fun t k => XS.aloadN X2.here hx rfl (hb hby d40_6) rfl rfl k) ?_
  show Go _ _ _ _ (T2.setTop (mkF m 7 #[rv xt, iv 3] [(.ref xt)]))
  refine go_st (fun t k => XS.iloadN X2.here hx rfl (hb hby d40_7) rfl k) ?_
  show Go _ _ _ _ (T2.setTop (mkF m 8 #[rv xt, iv 3] [(.int 3), (.ref xt)]))
  obtain ⟨zc3, zA3, zq3, zS3, zN3, zH3, zG3⟩ := id H0
  have hin3 : ¬ ((3 : Int32) < 0 ∨ zc3.slots.size ≤ ((3 : Int32)).toNatClampNeg) := inb_of zS3 ⟨by decide, by decide⟩
  have hat3 : zc3.slots[((3 : Int32)).toNatClampNeg]? = some (.int y3) := Has.at zH3 hin3 rfl
  refine go_st (fun t k => X2.baloadBytes hx (j := (3 : Int32)) (v := (.int y3)) (by rw [e2]; exact zA3.1) (State.isArrayOf_alike hZ.alike zA3.2.1) zA3.2.2 hin3 hat3 (g := (mkF m 8 #[rv xt, iv 3] [(.int 3), (.ref xt)])) rfl rfl (hb hby d40_8) t k) ?_
  show Go _ _ _ _ (T2.setTop (mkF m 9 #[rv xt, iv 3] [(.int y3)]))
  refine go_st (fun t k => XS.sipush X2.here hx rfl (hb hby d40_9) k) ?_
  show Go _ _ _ _ (T2.setTop (mkF m 12 #[rv xt, iv 3] [(.int 255), (.int y3)]))
  refine go_st (fun t k => XS.iand X2.here hx rfl (hb hby d40_12) rfl k) ?_
  show Go _ _ _ _ (T2.setTop (mkF m 13 #[rv xt, iv 3] [(.int (y3 &&& (255 : Int32)))]))
  refine go_st (fun t k => XS.i2c X2.here hx rfl (hb hby d40_13) rfl k) ?_
  show Go _ _ _ _ (T2.setTop (mkF m 14 #[rv xt, iv 3] [(.int (((y3 &&& (255 : Int32))).toUInt32.toUInt16.toUInt32.toInt32))]))
  obtain ⟨fs, hr, hrun, hended, hW, hsame⟩ := X2.leave (v := some (.int (nar .char (((y3 &&& (255 : Int32))).toUInt32.toUInt16.toUInt32.toInt32)))) (fun h => by rw [Bd.returns] at h; cases h)
  refine ⟨_, _, ?_, hrun, hended, _, _, rfl, ?_, ⟨_, rfl⟩, hW, hsame.mono (by decide) (by decide)⟩
  · exact retN X2 hx (t := .char) Bd.returns (by simp) (hb hby d40_14) hr
  · show Q_lchat4_3 _ _ _ _ _ _ _ _ _ _ _ T2.heap _
    rw [e2]
    exact ⟨(((y3 &&& (255 : Int32))).toUInt32.toUInt16.toUInt32.toInt32), rfl, N2, rfl, rfl⟩
def Q_chat4_3 (Z : State) (xs : Addr) (xt : Addr) (kx : ClassId) (y0 : Int32) (y1 : Int32) (y2 : Int32) (y3 : Int32) (fm : Value) (G1 : Int32) (h0 : Heap) (n0 : Nat) (vR : Option Value) (h : Heap) (L : List Loc) : Prop := ∃ (r : Int32), vR = some (.int (nar .char r)) ∧ Fr n0 L ∧ h = h0 ∧ (r = nar .char ((y3 &&& (255 : Int32)).toUInt32.toUInt16.toUInt32.toInt32))
theorem ef_chat4_3 (m : MethodId) (x0 : Addr) (x1 : Int32) : entryFrame m #[(.ref x0), (.int x1)] 2 = mkF m 0 #[.val (.ref x0), .val (.int x1)] [] := by first | (simp [entryFrame, mkF, argsToLocals, Value.category]; done) | rfl
set_option maxRecDepth 65536 in
set_option maxHeartbeats 40000000 in
theorem rm_chat4_3 (l : Launch) (Z : State) (a0 : Array Value) (hw : ∀ d ∈ tables_1, d.before a0 Z = true) (ws : List Jvm.Cond) (xs : Addr) (xt : Addr) (kx : ClassId) (y0 : Int32) (y1 : Int32) (y2 : Int32) (y3 : Int32) (fm : Value) (G1 : Int32) (h0 : Heap) (n0 : Nat) (Z0 : n0 ≤ h0.size) (H0 : Exa Z h0 xs "java/lang/String") (H1 : Fld Z h0 xs "java/lang/String" "value" "[B" (.ref xt)) (H2 : Fld Z h0 xs "java/lang/String" "coder" "B" (.int 0)) (H3 : Arv Z h0 xt kx .byte (4 : Int32) [(.int y0), (.int y1), (.int y2), (.int y3)] (.int (0 : Int32))) (hfm : fm.isRef = true) (FS : Sta Z Z.heap "jdk/internal/util/Preconditions" "SIOOBE_FORMATTER" "Ljava/util/function/BiFunction;" fm) (CS : Sta Z Z.heap "java/lang/String" "COMPACT_STRINGS" "Z" (.int G1)) (CSn : ¬ (G1 = (0 : Int32))) (O0 : Old Z n0 h0) :
    MetFree l (⟨"java/lang/String", "charAt", "(I)C"⟩ : MethodName) (head1 (Jvm.Cond.code (⟨"java/lang/String", "charAt", "(I)C"⟩ : MethodName) jdk_42_method_56_code 2 (some .char) :: ws) ({ frames := 3, cells := 0, slots := 0, locals := 40 } : Room)) (fun a U => a = #[(.ref xs), (.int 3)] ∧ Z.Warmed39 U.vm ∧ U.heap = h0) (fun _ _ _ _ _ => True) (fun _ U o U' => ∃ v L, o = .returned v ∧ Q_chat4_3 Z xs xt kx y0 y1 y2 y3 fm G1 h0 n0 v U'.heap L ∧ FrameEnd U o U' L ({ frames := 3, cells := 0, slots := 0, locals := 40 } : Room).cells ({ frames := 3, cells := 0, slots := 0, locals := 40 } : Room).slots) := by
  refine MetFree.of_bodySF (plainFor_of_name pn_java_lang_String) hisR ?_
  intro p e s m args below meth c s₁ Bd hml0 hP hK
  obtain ⟨rfl, hZ, hh⟩ := hP
  have hx := Bd.exec
  have hby := Bd.bytes
  have hml : c.maxLocals = 2 := hml0
  have hown : s.vm.findClass "java/lang/String" = some m.cls := findClass_of_methodNamed Bd.named
  have hnm := (name_of_methodNamed Bd.named Bd.method).1
  have X0 : Stand p l e ({ frames := 3, cells := 0, slots := 0, locals := 40 } : Room) s m #[(.ref xs), (.int 3)] below meth c s₁ [] 0 0 := Stand.of_body Bd
  have e0 : s₁.heap = h0 := by rw [← hh, Bd.state]; rfl
  have N0 := Fr.nil n0
  refine go_st (fun t k => castTop (ef_chat4_3 m xs (3 : Int32)) k) ?_
  show Go _ _ _ _ (s₁.setTop (mkF m 0 #[rv xs, iv 3] []))
  refine go_st (fun t k => XS.aloadN X0.here hx rfl (hb hby d38_0) rfl rfl k) ?_
  show Go _ _ _ _ (s₁.setTop (mkF m 1 #[rv xs, iv 3] [(.ref xs)]))
  obtain ⟨cq1, kq1, q1a, q1b, q1c⟩ := isOf hZ e0 H0
  obtain ⟨_, _, ⟨T1, L1, kk1, nn1⟩, -, X1, ⟨Lc1, hQ1, lq1, yq1, zq1⟩, st1⟩ := X0.virtualBack hx (y := (⟨"java/lang/String", "isLatin1", "()Z"⟩ : MethodName)) (z := (⟨"java/lang/String", "isLatin1", "()Z"⟩ : MethodName)) hown (mvT hZ (w248 hw)) (mvT hZ (w249 hw)) (nf_same (y := (⟨"java/lang/String", "isLatin1", "()Z"⟩ : MethodName)) (y' := (⟨"java/lang/String", "equals", "(Ljava/lang/Object;)Z"⟩ : MethodName)) (a0 := #[]) rfl (mvT hZ (w75 hw)) (notFace_of_selects (args := #[]) (mvT hZ (w76 hw)))) (mvT hZ (w251 hw)) (mvT hZ (w250 hw)) (by decide) (backOf (W := 0) (rm_sisl l Z a0 hw [] xs G1 h0 n0 (Nat.le_trans Z0 (Nat.le_refl _)) H2 CS CSn O0) hZ (w252 hw) (w11 hw) (by decide) (by decide)) q1a q1c (g := (mkF m 1 #[rv xs, iv 3] [(.ref xs)])) rfl (by rw [hml]; rfl) (Steps.refl _) (argsL := []) (rest := []) (lenOf pd_2 rfl) rfl (by show 2 * 0 + _ ≤ _; exact Nat.le_of_eq rfl) (hb hby d38_1) (fun _ _ => ⟨rfl, e0, (by decide : 0 + 0 ≤ _), (by decide : 0 + 0 ≤ _)⟩)
  dsimp only [Pt.U, Pt.locs, Pt.cells, Pt.slots] at X1 lq1 yq1 zq1 st1 hQ1
  obtain rfl : kk1 = 0 := yq1
  obtain rfl : nn1 = 0 := zq1
  obtain ⟨h1, e1⟩ : ∃ z, T1.heap = z := ⟨_, rfl⟩
  rw [e1] at hQ1
  obtain ⟨rfl, N1q, he1⟩ := hQ1
  have N1 : Fr n0 L1 := by rw [lq1]; exact Fr.app N0 N1q
  rw [he1] at e1
  refine go_tr st1 ?_
  show Go _ _ _ _ (T1.setTop (mkF m 4 #[rv xs, iv 3] [(.int 1)]))
  refine go_st (fun t k => XS.ifNo X1.here hx rfl (hb hby d38_4) rfl ((if0 _ _).trans (feq ((by decide) : ¬ ((1 : Int32) = (0 : Int32)))).1) k) ?_
  show Go _ _ _ _ (T1.setTop (mkF m 7 #[rv xs, iv 3] []))
  refine go_st (fun t k => XS.aloadN X1.here hx rfl (hb hby d38_7) rfl rfl k) ?_
  show Go _ _ _ _ (T1.setTop (mkF m 8 #[rv xs, iv 3] [(.ref xs)]))
  obtain ⟨T2, X2, e2, st2⟩ := getF X1 hx hZ hown (host := "") (Or.inl (w36 hw)) Via.refl e1 H1 (g := (mkF m 8 #[rv xs, iv 3] [(.ref xs)])) rfl rfl (hb hby d38_8)
  refine go_st (fun t k => st2 t k) ?_
  show Go _ _ _ _ (T2.setTop (mkF m 11 #[rv xs, iv 3] [(.ref xt)]))
  refine go_st (fun t k => XS.iloadN X2.here hx rfl (hb hby d38_11) rfl k) ?_
  show Go _ _ _ _ (T2.setTop (mkF m 12 #[rv xs, iv 3] [(.int 3), (.ref xt)]))
  obtain ⟨_, _, ⟨T3, L3, kk3, nn3⟩, -, X3, ⟨Lc3, hQ3, lq3, yq3, zq3⟩, st3⟩ := Jvm.LawKit.callS X2 hx (y := (⟨"java/lang/StringLatin1", "charAt", "([BI)C"⟩ : MethodName)) hown (mvT hZ (w253 hw)) (mvT hZ (w254 hw)) (mvT hZ (w122 hw)) (mvT hZ (w255 hw)) (by decide) (backOf (W := 0) (rm_lchat4_3 l Z a0 hw [] xt kx y0 y1 y2 y3 fm h0 n0 (Nat.le_trans Z0 (Nat.le_refl _)) H3 hfm FS O0) hZ (w255 hw) (w122 hw) (by decide) (by decide)) (g := (mkF m 12 #[rv xs, iv 3] [(.int 3), (.ref xt)])) rfl (by rw [hml]; rfl) (argsL := [(.ref xt), (.int 3)]) (rest := []) (lenOf pd_28 rfl) rfl (by show 2 * 0 + _ ≤ _; exact Nat.le_of_eq rfl) (hb hby d38_12) (fun _ _ => ⟨rfl, e2, (by decide : 0 + 0 ≤ _), (by decide : 0 + 0 ≤ _)⟩)
  dsimp only [Pt.U, Pt.locs, Pt.cells, Pt.slots] at X3 lq3 yq3 zq3 st3 hQ3
  obtain rfl : kk3 = 0 := yq3
  obtain rfl : nn3 = 0 := zq3
  obtain ⟨h3, e3⟩ : ∃ z, T3.heap = z := ⟨_, rfl⟩
  rw [e3] at hQ3
  obtain ⟨r_3, rfl, N3q, he3, hr_3⟩ := hQ3
  have N3 : Fr n0 L3 := by rw [lq3]; exact Fr.app N1 N3q
  rw [he3] at e3
  refine go_st st3 ?_
  show Go _ _ _ _ (T3.setTop (mkF m 15 #[rv xs, iv 3] [(.int (nar .char r_3))]))
  obtain ⟨fs, hr, hrun, hended, hW, hsame⟩ := X3.leave (v := some (.int (nar .char (nar .char r_3)))) (fun h => by rw [Bd.returns] at h; cases h)
  refine ⟨_, _, ?_, hrun, hended, _, _, rfl, ?_, ⟨_, rfl⟩, hW, hsame.mono (by decide) (by decide)⟩
  · exact retN X3 hx (t := .char) Bd.returns (by simp) (hb hby d38_15) hr
  · show Q_chat4_3 _ _ _ _ _ _ _ _ _ _ _ _ _ T3.heap _
    rw [e3]
    exact ⟨(nar .char r_3), rfl, N3, rfl, (congrArg (nar .char) hr_3)⟩
def Q_law (Z : State) (p0 : Int32) (p1 : Int32) (p2 : Int32) (p3 : Int32) (G1 : Int32) (g0 : Addr) (g1 : Addr) (g2 : Addr) (g3 : Addr) (g4 : Addr) (fm : Value) (h0 : Heap) (n0 : Nat) (vR : Option Value) (h : Heap) (L : List Loc) : Prop := vR = some (.int 1) ∧ Fr n0 L ∧ Keep h0 h []
theorem ef_law (m : MethodId) (x0 : Int32) (x1 : Int32) (x2 : Int32) (x3 : Int32) : entryFrame m #[(.int x0), (.int x1), (.int x2), (.int x3)] maxLocals = mkF m 0 #[.val (.int x0), .val (.int x1), .val (.int x2), .val (.int x3), .unset, .unset, .unset, .unset, .unset, .unset, .unset, .unset, .unset, .unset, .unset, .unset] [] := by first | (simp [entryFrame, mkF, argsToLocals, Value.category, maxLocals]; done) | rfl
set_option maxRecDepth 65536 in
set_option maxHeartbeats 40000000 in
theorem rm_law (l : Launch) (Z : State) (a0 : Array Value) (hw : ∀ d ∈ tables_1, d.before a0 Z = true) (ws : List Jvm.Cond) (p0 : Int32) (p1 : Int32) (p2 : Int32) (p3 : Int32) (G1 : Int32) (g0 : Addr) (g1 : Addr) (g2 : Addr) (g3 : Addr) (g4 : Addr) (fm : Value) (h0 : Heap) (n0 : Nat) (Z0 : n0 ≤ h0.size) (CS : Sta Z Z.heap "java/lang/String" "COMPACT_STRINGS" "Z" (.int G1)) (CSn : ¬ (G1 = (0 : Int32))) (GS0 : Sta Z Z.heap "com/example/tuplet/tuplet/Commands$Kind" "FLAG" "Lcom/example/tuplet/tuplet/Commands$Kind;" (.ref g0)) (GS1 : Sta Z Z.heap "com/example/tuplet/tuplet/Commands$Kind" "TEXT" "Lcom/example/tuplet/tuplet/Commands$Kind;" (.ref g1)) (GS2 : Sta Z Z.heap "com/example/tuplet/tuplet/Commands$Kind" "INTEGER" "Lcom/example/tuplet/tuplet/Commands$Kind;" (.ref g2)) (GS3 : Sta Z Z.heap "com/example/tuplet/tuplet/Commands$Kind" "PATH" "Lcom/example/tuplet/tuplet/Commands$Kind;" (.ref g3)) (GS4 : Sta Z Z.heap "com/example/tuplet/tuplet/Commands$Kind" "LIST" "Lcom/example/tuplet/tuplet/Commands$Kind;" (.ref g4)) (hfm : fm.isRef = true) (FS : Sta Z Z.heap "jdk/internal/util/Preconditions" "SIOOBE_FORMATTER" "Ljava/util/function/BiFunction;" fm) (O0 : Old Z n0 h0) :
    MetFree l x (head1 (Jvm.Cond.code x code maxLocals ret :: ws) room_1) (fun a U => a = #[(.int p0), (.int p1), (.int p2), (.int p3)] ∧ Z.Warmed39 U.vm ∧ U.heap = h0 ∧ CHv Z consts_1 U.vm h0) (fun _ _ _ _ _ => True) (fun _ U o U' => ∃ v L, o = .returned v ∧ Q_law Z p0 p1 p2 p3 G1 g0 g1 g2 g3 g4 fm h0 n0 v U'.heap L ∧ CHr Z consts_1 U.vm U.heap U'.vm U'.heap ∧ ReturnedEndW U o U' L room_1.cells room_1.slots) := by
  refine MetFree.of_bodySF (plainFor_of_name pn_com_example_tuplet_tuplet_OptionOfPinLaw) hisR ?_
  intro p e s m args below meth c s₁ Bd hml0 hP hK
  obtain ⟨rfl, hZs, hh, HC0⟩ := hP
  have hx := Bd.exec
  have hby := Bd.bytes
  have hml : c.maxLocals = 16 := hml0
  have hZ : Z.Warmed39 (s.setVm s.vm).vm := hZs
  have hown : (s.setVm s.vm).vm.findClass "com/example/tuplet/tuplet/OptionOfPinLaw" = some m.cls := findClass_of_methodNamed Bd.named
  have hnm := (name_of_methodNamed Bd.named Bd.method).1
  have X0 : Stand p l e room_1 (s.setVm s.vm) m #[(.int p0), (.int p1), (.int p2), (.int p3)] below meth c s₁ [] 0 0 := Stand.of_body Bd
  have e0 : s₁.heap = h0 := by rw [← hh, Bd.state]; rfl
  have N0 := Fr.nil n0
  have hS0 : s.Since s.vm s.heap.size := (State.WarmedH.refl s).since _
  have hk0 : s.heap.size ≤ h0.size := Nat.le_of_eq (congrArg Array.size hh)
  have C0 : CHr Z consts_1 s.vm h0 s.vm h0 := CHr.refl HC0
  refine go_st (fun t k => castTop (ef_law m p0 p1 p2 p3) k) ?_
  show Go _ _ _ _ (s₁.setTop (mkF m 0 #[iv p0, iv p1, iv p2, iv p3, .unset, .unset, .unset, .unset, .unset, .unset, .unset, .unset, .unset, .unset, .unset, .unset] []))
  refine go_st (fun t k => XS.iloadN X0.here hx rfl (hb hby at_0) rfl k) ?_
  show Go _ _ _ _ (s₁.setTop (mkF m 1 #[iv p0, iv p1, iv p2, iv p3, .unset, .unset, .unset, .unset, .unset, .unset, .unset, .unset, .unset, .unset, .unset, .unset] [(.int p0)]))
  obtain ⟨_, _, ⟨T1, L1, kk1, nn1⟩, -, X1, ⟨Lc1, hQ1, lq1, yq1, zq1⟩, st1⟩ := Jvm.LawKit.callS X0 hx (y := (⟨"com/example/tuplet/tuplet/OptionOfPinLaw", "kindOf", "(I)Lcom/example/tuplet/tuplet/Commands$Kind;"⟩ : MethodName)) hown (mvT hZ (w0 hw)) (mvT hZ (w1 hw)) (mvT hZ (w2 hw)) (mvT hZ (w3 hw)) (by decide) (backOf (W := 0) (rm_kindOf l Z a0 hw [] p0 g0 g1 g2 g3 g4 h0 n0 (Nat.le_trans Z0 (Nat.le_refl _)) GS0 GS1 GS2 GS3 GS4 O0) hZ (w3 hw) (w2 hw) (by decide) (by decide)) (g := (mkF m 1 #[iv p0, iv p1, iv p2, iv p3, .unset, .unset, .unset, .unset, .unset, .unset, .unset, .unset, .unset, .unset, .unset, .unset] [(.int p0)])) rfl (by rw [hml]; rfl) (argsL := [(.int p0)]) (rest := []) (lenOf pd_18 rfl) rfl (by show 2 * 0 + _ ≤ _; exact Nat.le_of_eq rfl) (hb hby at_1) (fun _ _ => ⟨rfl, e0, (by decide : 0 + 0 ≤ _), (by decide : 0 + 0 ≤ _)⟩)
  dsimp only [Pt.U, Pt.locs, Pt.cells, Pt.slots] at X1 lq1 yq1 zq1 st1 hQ1
  obtain rfl : kk1 = 0 := yq1
  obtain rfl : nn1 = 0 := zq1
  obtain ⟨h1, e1⟩ : ∃ z, T1.heap = z := ⟨_, rfl⟩
  rw [e1] at hQ1
  obtain ⟨g_1, rfl, N1q, he1⟩ := hQ1
  have N1 : Fr n0 L1 := by rw [lq1]; exact Fr.app N0 N1q
  rw [he1] at e1
  refine go_st st1 ?_
  show Go _ _ _ _ (T1.setTop (mkF m 4 #[iv p0, iv p1, iv p2, iv p3, .unset, .unset, .unset, .unset, .unset, .unset, .unset, .unset, .unset, .unset, .unset, .unset] [(.ref g_1)]))
  refine go_st (fun t k => XS.astore X1.here hx rfl (hb hby at_4) rfl rfl (l' := #[iv p0, iv p1, iv p2, iv p3, rv g_1, .unset, .unset, .unset, .unset, .unset, .unset, .unset, .unset, .unset, .unset, .unset]) rfl k) ?_
  show Go _ _ _ _ (T1.setTop (mkF m 6 #[iv p0, iv p1, iv p2, iv p3, rv g_1, .unset, .unset, .unset, .unset, .unset, .unset, .unset, .unset, .unset, .unset, .unset] []))
  refine go_st (fun t k => XS.iconst X1.here hx rfl (hb hby at_6) k) ?_
  show Go _ _ _ _ (T1.setTop (mkF m 7 #[iv p0, iv p1, iv p2, iv p3, rv g_1, .unset, .unset, .unset, .unset, .unset, .unset, .unset, .unset, .unset, .unset, .unset] [(.int 2)]))
  obtain ⟨T2, h2, kc2, X2, e2, E2, A2, st2⟩ := newP X1 hx hZ (aty := .char) (w8 hw) e1 (g := (mkF m 7 #[iv p0, iv p1, iv p2, iv p3, rv g_1, .unset, .unset, .unset, .unset, .unset, .unset, .unset, .unset, .unset, .unset, .unset] [(.int 2)])) rfl (hb hby at_7) rfl (by decide) (cap := 2) (by decide) (by decide) (by decide) (by decide)
  obtain ⟨b2, gq2⟩ : ∃ z, z = h0.size := ⟨_, rfl⟩
  rw [← gq2] at A2 st2
  have C3 : CHr Z consts_1 s.vm h0 s.vm h2 := CHr.trans C0 (CHr.ext E2 C0.1)
  have f4 : Arv Z h2 b2 kc2 .char (2 : Int32) [(.int 0), (.int 0)] (.int 0) := (Arv.new A2 (by decide)).pad (pad_rep [] (.int 0) 2)
  refine go_st (fun t k => st2 t k) ?_
  show Go _ _ _ _ (T2.setTop (mkF m 9 #[iv p0, iv p1, iv p2, iv p3, rv g_1, .unset, .unset, .unset, .unset, .unset, .unset, .unset, .unset, .unset, .unset, .unset] [(.ref b2)]))
  refine go_st (fun t k => XS.astore X2.here hx rfl (hb hby at_9) rfl rfl (l' := #[iv p0, iv p1, iv p2, iv p3, rv g_1, rv b2, .unset, .unset, .unset, .unset, .unset, .unset, .unset, .unset, .unset, .unset]) rfl k) ?_
  show Go _ _ _ _ (T2.setTop (mkF m 11 #[iv p0, iv p1, iv p2, iv p3, rv g_1, rv b2, .unset, .unset, .unset, .unset, .unset, .unset, .unset, .unset, .unset, .unset] []))
  refine go_st (fun t k => XS.aload X2.here hx rfl (hb hby at_11) rfl rfl k) ?_
  show Go _ _ _ _ (T2.setTop (mkF m 13 #[iv p0, iv p1, iv p2, iv p3, rv g_1, rv b2, .unset, .unset, .unset, .unset, .unset, .unset, .unset, .unset, .unset, .unset] [(.ref b2)]))
  refine go_st (fun t k => XS.iconst X2.here hx rfl (hb hby at_13) k) ?_
  show Go _ _ _ _ (T2.setTop (mkF m 14 #[iv p0, iv p1, iv p2, iv p3, rv g_1, rv b2, .unset, .unset, .unset, .unset, .unset, .unset, .unset, .unset, .unset, .unset] [(.int 0), (.ref b2)]))
  refine go_st (fun t k => XS.iloadN X2.here hx rfl (hb hby at_14) rfl k) ?_
  show Go _ _ _ _ (T2.setTop (mkF m 15 #[iv p0, iv p1, iv p2, iv p3, rv g_1, rv b2, .unset, .unset, .unset, .unset, .unset, .unset, .unset, .unset, .unset, .unset] [(.int p1), (.int 0), (.ref b2)]))
  refine go_st (fun t k => XS.sipush X2.here hx rfl (hb hby at_15) k) ?_
  show Go _ _ _ _ (T2.setTop (mkF m 18 #[iv p0, iv p1, iv p2, iv p3, rv g_1, rv b2, .unset, .unset, .unset, .unset, .unset, .unset, .unset, .unset, .unset, .unset] [(.int 255), (.int p1), (.int 0), (.ref b2)]))
  refine go_st (fun t k => XS.iand X2.here hx rfl (hb hby at_18) rfl k) ?_
  show Go _ _ _ _ (T2.setTop (mkF m 19 #[iv p0, iv p1, iv p2, iv p3, rv g_1, rv b2, .unset, .unset, .unset, .unset, .unset, .unset, .unset, .unset, .unset, .unset] [(.int (p1 &&& (255 : Int32))), (.int 0), (.ref b2)]))
  refine go_st (fun t k => XS.i2c X2.here hx rfl (hb hby at_19) rfl k) ?_
  show Go _ _ _ _ (T2.setTop (mkF m 20 #[iv p0, iv p1, iv p2, iv p3, rv g_1, rv b2, .unset, .unset, .unset, .unset, .unset, .unset, .unset, .unset, .unset, .unset] [(.int (((p1 &&& (255 : Int32))).toUInt32.toUInt16.toUInt32.toInt32)), (.int 0), (.ref b2)]))
  obtain ⟨c0, h_c0⟩ : ∃ z, z = (((p1 &&& (255 : Int32))).toUInt32.toUInt16.toUInt32.toInt32) := ⟨_, rfl⟩
  rw [← h_c0]
  show Go _ _ _ _ (T2.setTop (mkF m 20 #[iv p0, iv p1, iv p2, iv p3, rv g_1, rv b2, .unset, .unset, .unset, .unset, .unset, .unset, .unset, .unset, .unset, .unset] [(.int c0), (.int 0), (.ref b2)]))
  have hc0 : ¬ c0 < 0 ∧ ¬ (255 : Int32) < c0 := by rw [h_c0]; exact and255_c _
  obtain ⟨zc5, zA5, zq5, zS5, zN5, zH5, zG5⟩ := id f4
  have hin5 : ¬ ((0 : Int32) < 0 ∨ zc5.slots.size ≤ ((0 : Int32)).toNatClampNeg) := inb_of zS5 ⟨by decide, by decide⟩
  obtain ⟨T5, h5, X5, e5, W5, st5⟩ := stC X2 hx hZ e2 zA5 (j := (0 : Int32)) hin5 (g := (mkF m 20 #[iv p0, iv p1, iv p2, iv p3, rv g_1, rv b2, .unset, .unset, .unset, .unset, .unset, .unset, .unset, .unset, .unset, .unset] [(.int c0), (.int 0), (.ref b2)])) rfl rfl (hb hby at_20)
  have g_b2 : n0 ≤ b2 := Nat.le_trans (Nat.le_trans Z0 (Nat.le_refl _)) (Nat.le_of_eq gq2.symm)
  have N5 := Fr.snoc X5 N1 g_b2
  have C6 : CHr Z consts_1 s.vm h0 s.vm h5 := CHr.trans C3 (CHr.wr W5 (Safe.arv hZ.alike f4 (by decide)) C3.1)
  have f7 : Arv Z h5 b2 kc2 .char (2 : Int32) [(.int (nar .char c0)), (.int 0)] (.int 0) := Arv.set zA5 zq5 zS5 zN5 zH5 zG5 (fits_nar_char _) W5 0 rfl (Nat.le_of_ble_eq_true rfl)
  refine go_st (fun t k => st5 t k) ?_
  show Go _ _ _ _ (T5.setTop (mkF m 21 #[iv p0, iv p1, iv p2, iv p3, rv g_1, rv b2, .unset, .unset, .unset, .unset, .unset, .unset, .unset, .unset, .unset, .unset] []))
  refine go_st (fun t k => XS.aload X5.here hx rfl (hb hby at_21) rfl rfl k) ?_
  show Go _ _ _ _ (T5.setTop (mkF m 23 #[iv p0, iv p1, iv p2, iv p3, rv g_1, rv b2, .unset, .unset, .unset, .unset, .unset, .unset, .unset, .unset, .unset, .unset] [(.ref b2)]))
  refine go_st (fun t k => XS.iconst X5.here hx rfl (hb hby at_23) k) ?_
  show Go _ _ _ _ (T5.setTop (mkF m 24 #[iv p0, iv p1, iv p2, iv p3, rv g_1, rv b2, .unset, .unset, .unset, .unset, .unset, .unset, .unset, .unset, .unset, .unset] [(.int 1), (.ref b2)]))
  refine go_st (fun t k => XS.iloadN X5.here hx rfl (hb hby at_24) rfl k) ?_
  show Go _ _ _ _ (T5.setTop (mkF m 25 #[iv p0, iv p1, iv p2, iv p3, rv g_1, rv b2, .unset, .unset, .unset, .unset, .unset, .unset, .unset, .unset, .unset, .unset] [(.int p1), (.int 1), (.ref b2)]))
  refine go_st (fun t k => XS.bipush X5.here hx rfl (hb hby at_25) k) ?_
  show Go _ _ _ _ (T5.setTop (mkF m 27 #[iv p0, iv p1, iv p2, iv p3, rv g_1, rv b2, .unset, .unset, .unset, .unset, .unset, .unset, .unset, .unset, .unset, .unset] [(.int 8), (.int p1), (.int 1), (.ref b2)]))
  refine go_st (fun t k => XS.iushr X5.here hx rfl (hb hby at_27) rfl k) ?_
  show Go _ _ _ _ (T5.setTop (mkF m 28 #[iv p0, iv p1, iv p2, iv p3, rv g_1, rv b2, .unset, .unset, .unset, .unset, .unset, .unset, .unset, .unset, .unset, .unset] [(.int ((p1).toUInt32 >>> ((8 : Int32) &&& 31).toUInt32).toInt32), (.int 1), (.ref b2)]))
  refine go_st (fun t k => XS.sipush X5.here hx rfl (hb hby at_28) k) ?_
  show Go _ _ _ _ (T5.setTop (mkF m 31 #[iv p0, iv p1, iv p2, iv p3, rv g_1, rv b2, .unset, .unset, .unset, .unset, .unset, .unset, .unset, .unset, .unset, .unset] [(.int 255), (.int ((p1).toUInt32 >>> ((8 : Int32) &&& 31).toUInt32).toInt32), (.int 1), (.ref b2)]))
  refine go_st (fun t k => XS.iand X5.here hx rfl (hb hby at_31) rfl k) ?_
  show Go _ _ _ _ (T5.setTop (mkF m 32 #[iv p0, iv p1, iv p2, iv p3, rv g_1, rv b2, .unset, .unset, .unset, .unset, .unset, .unset, .unset, .unset, .unset, .unset] [(.int (((p1).toUInt32 >>> ((8 : Int32) &&& 31).toUInt32).toInt32 &&& (255 : Int32))), (.int 1), (.ref b2)]))
  refine go_st (fun t k => XS.i2c X5.here hx rfl (hb hby at_32) rfl k) ?_
  show Go _ _ _ _ (T5.setTop (mkF m 33 #[iv p0, iv p1, iv p2, iv p3, rv g_1, rv b2, .unset, .unset, .unset, .unset, .unset, .unset, .unset, .unset, .unset, .unset] [(.int (((((p1).toUInt32 >>> ((8 : Int32) &&& 31).toUInt32).toInt32 &&& (255 : Int32))).toUInt32.toUInt16.toUInt32.toInt32)), (.int 1), (.ref b2)]))
  obtain ⟨c1, h_c1⟩ : ∃ z, z = (((((p1).toUInt32 >>> ((8 : Int32) &&& 31).toUInt32).toInt32 &&& (255 : Int32))).toUInt32.toUInt16.toUInt32.toInt32) := ⟨_, rfl⟩
  rw [← h_c1]
  show Go _ _ _ _ (T5.setTop (mkF m 33 #[iv p0, iv p1, iv p2, iv p3, rv g_1, rv b2, .unset, .unset, .unset, .unset, .unset, .unset, .unset, .unset, .unset, .unset] [(.int c1), (.int 1), (.ref b2)]))
  have hc1 : ¬ c1 < 0 ∧ ¬ (255 : Int32) < c1 := by rw [h_c1]; exact and255_c _
  obtain ⟨zc8, zA8, zq8, zS8, zN8, zH8, zG8⟩ := id f7
  have hin8 : ¬ ((1 : Int32) < 0 ∨ zc8.slots.size ≤ ((1 : Int32)).toNatClampNeg) := inb_of zS8 ⟨by decide, by decide⟩
  obtain ⟨T8, h8, X8, e8, W8, st8⟩ := stC X5 hx hZ e5 zA8 (j := (1 : Int32)) hin8 (g := (mkF m 33 #[iv p0, iv p1, iv p2, iv p3, rv g_1, rv b2, .unset, .unset, .unset, .unset, .unset, .unset, .unset, .unset, .unset, .unset] [(.int c1), (.int 1), (.ref b2)])) rfl rfl (hb hby at_33)
  have N8 := Fr.snoc X8 N5 g_b2
  have C9 : CHr Z consts_1 s.vm h0 s.vm h8 := CHr.trans C6 (CHr.wr W8 (Safe.arv hZ.alike f7 (by decide)) C6.1)
  have f10 : Arv Z h8 b2 kc2 .char (2 : Int32) [(.int (nar .char c0)), (.int (nar .char c1))] (.int 0) := Arv.set zA8 zq8 zS8 zN8 zH8 zG8 (fits_nar_char _) W8 1 rfl (Nat.le_of_ble_eq_true rfl)
  refine go_st (fun t k => st8 t k) ?_
  show Go _ _ _ _ (T8.setTop (mkF m 34 #[iv p0, iv p1, iv p2, iv p3, rv g_1, rv b2, .unset, .unset, .unset, .unset, .unset, .unset, .unset, .unset, .unset, .unset] []))
  have f11 : Arv Z h8 b2 kc2 .char (2 : Int32) [(.int c0), (.int c1)] (.int 0) := by have q := f10; rw [nar_c hc0, nar_c hc1] at q; exact q
  obtain ⟨T12, h12, X12, e12, E12, A12, D12, -, st12⟩ := newO X8 hx hZ hown (w9 hw) (w10 hw) (w11 hw) e8 (g := (mkF m 34 #[iv p0, iv p1, iv p2, iv p3, rv g_1, rv b2, .unset, .unset, .unset, .unset, .unset, .unset, .unset, .unset, .unset, .unset] [])) rfl (hb hby at_34) (by decide) (by decide)
  obtain ⟨b12, gq12⟩ : ∃ z, z = h8.size := ⟨_, rfl⟩
  rw [← gq12] at A12 D12 st12
  have sn12 : Safe Z consts_1 s.vm h8 b12 := Safe.new (Nat.le_of_eq gq12.symm)
  have C13 : CHr Z consts_1 s.vm h0 s.vm h12 := CHr.trans C9 (CHr.ext E12 C9.1)
  have sf14 : Safe Z consts_1 s.vm h12 b12 := Safe.ext E12 C9.1 sn12
  have f15 : Fld Z h12 b12 "java/lang/String" "coder" "B" (.int 0) := D12 (Or.inr (w35 hw)) (ty := .byte) (by decide)
  have f16 : Fld Z h12 b12 "java/lang/String" "value" "[B" .null := D12 (Or.inr (w37 hw)) (ty := (.array .byte)) (by decide)
  refine go_st (fun t k => st12 t k) ?_
  show Go _ _ _ _ (T12.setTop (mkF m 37 #[iv p0, iv p1, iv p2, iv p3, rv g_1, rv b2, .unset, .unset, .unset, .unset, .unset, .unset, .unset, .unset, .unset, .unset] [(.ref b12)]))
  refine go_st (fun t k => XS.dup X12.here hx rfl (hb hby at_37) rfl rfl k) ?_
  show Go _ _ _ _ (T12.setTop (mkF m 38 #[iv p0, iv p1, iv p2, iv p3, rv g_1, rv b2, .unset, .unset, .unset, .unset, .unset, .unset, .unset, .unset, .unset, .unset] [(.ref b12), (.ref b12)]))
  refine go_st (fun t k => XS.aload X12.here hx rfl (hb hby at_38) rfl rfl k) ?_
  show Go _ _ _ _ (T12.setTop (mkF m 40 #[iv p0, iv p1, iv p2, iv p3, rv g_1, rv b2, .unset, .unset, .unset, .unset, .unset, .unset, .unset, .unset, .unset, .unset] [(.ref b2), (.ref b12), (.ref b12)]))
  have f17 : Arv Z h12 b2 kc2 .char (2 : Int32) [(.int c0), (.int c1)] (.int 0) := (f11.ext E12)
  have oe18 : Old Z n0 h2 := (Old.ext O0 E2)
  have oe19 : Old Z n0 h5 := (Old.wr oe18 W5 g_b2)
  have oe20 : Old Z n0 h8 := (Old.wr oe19 W8 g_b2)
  have oe21 : Old Z n0 h12 := (Old.ext oe20 E12)
  have sz22 : h0.size ≤ h5.size := (Nat.le_trans E2.1 (Nat.le_of_eq W5.size.symm))
  have sz23 : h0.size ≤ h8.size := (Nat.le_trans sz22 (Nat.le_of_eq W8.size.symm))
  have g_b12 : n0 ≤ b12 := Nat.le_trans (Nat.le_trans Z0 sz23) (Nat.le_of_eq gq12.symm)
  have sz24 : h0.size ≤ h12.size := (Nat.le_trans sz23 E12.1)
  obtain ⟨_, _, ⟨T25, L25, kk25, nn25⟩, -, X25, ⟨Lc25, hQ25, lq25, yq25, zq25⟩, st25⟩ := X12.specialBack hx (y := (⟨"java/lang/String", "<init>", "([C)V"⟩ : MethodName)) rfl hown (mvT hZ (w12 hw)) (mvT hZ (w13 hw)) (mvT hZ (w14 hw)) (by decide) (StrChars.Road.backV (W := 1) hZ (words_in str_words hw) (kI := 4) (w10 hw) (cs := ([c0, c1] : List Int32)) (bs := ([c0, c1] : List Int32).map (fun c => c.toInt8.toInt32)) (n := 2) g_b12 (Nat.le_trans Z0 sz24) A12 f16 f15 f17 (Sta.ext oe21.2 CS) CSn rfl rfl (by decide) (by decide) (chars_cons hc0 (chars_cons hc1 chars_nil)) rfl (by decide) (by decide)) (g := (mkF m 40 #[iv p0, iv p1, iv p2, iv p3, rv g_1, rv b2, .unset, .unset, .unset, .unset, .unset, .unset, .unset, .unset, .unset, .unset] [(.ref b2), (.ref b12), (.ref b12)])) rfl (by rw [hml]; rfl) (Steps.refl _) (a := b12) (argsL := [(.ref b2)]) (rest := [(.ref b12)]) (lenOf pd_19 rfl) rfl (by show 2 * 0 + _ ≤ _; exact Nat.le_of_eq rfl) (hb hby at_40) (fun _ _ => ⟨rfl, e12, (by decide : 2 + 1 ≤ _), (by decide : 6 + 2 ≤ _)⟩)
  dsimp only [Pt.U, Pt.locs, Pt.cells, Pt.slots] at X25 lq25 yq25 zq25 st25 hQ25
  obtain rfl : kk25 = 3 := yq25
  obtain rfl : nn25 = 8 := zq25
  obtain ⟨h25, e25⟩ : ∃ z, T25.heap = z := ⟨_, rfl⟩
  rw [e25] at hQ25
  obtain ⟨rfl, N25q, K25, Es25, Cs25, t25, kb25, gt25, lt25, nt25, Vs25, As25⟩ := hQ25
  have N25 : Fr n0 L25 := by rw [lq25]; exact Fr.app N8 N25q
  have C26 : CHr Z consts_1 s.vm h0 s.vm h25 := CHr.trans C13 (CHr.keep K25 (sfS sf14 sf0) C13.1)
  have sf27 : Safe Z consts_1 s.vm h25 b12 := (Safe.keep K25 (sfS sf14 sf0) C13.1 sf14)
  refine go_tr st25 ?_
  show Go _ _ _ _ (T25.setTop (mkF m 43 #[iv p0, iv p1, iv p2, iv p3, rv g_1, rv b2, .unset, .unset, .unset, .unset, .unset, .unset, .unset, .unset, .unset, .unset] [(.ref b12)]))
  have f28 : Arv Z h25 t25 kb25 .byte (2 : Int32) [(.int (c0.toInt8.toInt32)), (.int (c1.toInt8.toInt32))] (.int 0) := As25
  refine go_st (fun t k => XS.astore X25.here hx rfl (hb hby at_43) rfl rfl (l' := #[iv p0, iv p1, iv p2, iv p3, rv g_1, rv b2, rv b12, .unset, .unset, .unset, .unset, .unset, .unset, .unset, .unset, .unset]) rfl k) ?_
  show Go _ _ _ _ (T25.setTop (mkF m 45 #[iv p0, iv p1, iv p2, iv p3, rv g_1, rv b2, rv b12, .unset, .unset, .unset, .unset, .unset, .unset, .unset, .unset, .unset] []))
  refine go_st (fun t k => XS.iloadN X25.here hx rfl (hb hby at_45) rfl k) ?_
  show Go _ _ _ _ (T25.setTop (mkF m 46 #[iv p0, iv p1, iv p2, iv p3, rv g_1, rv b2, rv b12, .unset, .unset, .unset, .unset, .unset, .unset, .unset, .unset, .unset] [(.int p2)]))
  refine go_st (fun t k => XS.iconst X25.here hx rfl (hb hby at_46) k) ?_
  show Go _ _ _ _ (T25.setTop (mkF m 47 #[iv p0, iv p1, iv p2, iv p3, rv g_1, rv b2, rv b12, .unset, .unset, .unset, .unset, .unset, .unset, .unset, .unset, .unset] [(.int 1), (.int p2)]))
  refine go_st (fun t k => XS.iand X25.here hx rfl (hb hby at_47) rfl k) ?_
  show Go _ _ _ _ (T25.setTop (mkF m 48 #[iv p0, iv p1, iv p2, iv p3, rv g_1, rv b2, rv b12, .unset, .unset, .unset, .unset, .unset, .unset, .unset, .unset, .unset] [(.int (p2 &&& (1 : Int32)))]))
  by_cases hc29 : (p2 &&& (1 : Int32)) = (0 : Int32)
  · skip
    refine go_st (fun t k => XS.ifYes X25.here hx rfl (pc0 := 48) (pc' := 55) rfl (hb hby at_48) rfl ((if0 _ _).trans (teq (hc29 : (p2 &&& (1 : Int32)) = (0 : Int32))).1) (by decide) (by decide) k) ?_
    show Go _ _ _ _ (T25.setTop (mkF m 55 #[iv p0, iv p1, iv p2, iv p3, rv g_1, rv b2, rv b12, .unset, .unset, .unset, .unset, .unset, .unset, .unset, .unset, .unset] []))
    refine go_st (fun t k => XS.iconst X25.here hx rfl (hb hby at_55) k) ?_
    show Go _ _ _ _ (T25.setTop (mkF m 56 #[iv p0, iv p1, iv p2, iv p3, rv g_1, rv b2, rv b12, .unset, .unset, .unset, .unset, .unset, .unset, .unset, .unset, .unset] [(.int 0)]))
    refine go_st (fun t k => XS.istore X25.here hx rfl (hb hby at_56) rfl (l' := #[iv p0, iv p1, iv p2, iv p3, rv g_1, rv b2, rv b12, iv 0, .unset, .unset, .unset, .unset, .unset, .unset, .unset, .unset]) rfl k) ?_
    show Go _ _ _ _ (T25.setTop (mkF m 58 #[iv p0, iv p1, iv p2, iv p3, rv g_1, rv b2, rv b12, iv 0, .unset, .unset, .unset, .unset, .unset, .unset, .unset, .unset] []))
    refine go_st (fun t k => XS.iloadN X25.here hx rfl (hb hby at_58) rfl k) ?_
    show Go _ _ _ _ (T25.setTop (mkF m 59 #[iv p0, iv p1, iv p2, iv p3, rv g_1, rv b2, rv b12, iv 0, .unset, .unset, .unset, .unset, .unset, .unset, .unset, .unset] [(.int p2)]))
    refine go_st (fun t k => XS.iconst X25.here hx rfl (hb hby at_59) k) ?_
    show Go _ _ _ _ (T25.setTop (mkF m 60 #[iv p0, iv p1, iv p2, iv p3, rv g_1, rv b2, rv b12, iv 0, .unset, .unset, .unset, .unset, .unset, .unset, .unset, .unset] [(.int 1), (.int p2)]))
    refine go_st (fun t k => XS.iushr X25.here hx rfl (hb hby at_60) rfl k) ?_
    show Go _ _ _ _ (T25.setTop (mkF m 61 #[iv p0, iv p1, iv p2, iv p3, rv g_1, rv b2, rv b12, iv 0, .unset, .unset, .unset, .unset, .unset, .unset, .unset, .unset] [(.int ((p2).toUInt32 >>> ((1 : Int32) &&& 31).toUInt32).toInt32)]))
    refine go_st (fun t k => XS.sipush X25.here hx rfl (hb hby at_61) k) ?_
    show Go _ _ _ _ (T25.setTop (mkF m 64 #[iv p0, iv p1, iv p2, iv p3, rv g_1, rv b2, rv b12, iv 0, .unset, .unset, .unset, .unset, .unset, .unset, .unset, .unset] [(.int 255), (.int ((p2).toUInt32 >>> ((1 : Int32) &&& 31).toUInt32).toInt32)]))
    refine go_st (fun t k => XS.iand X25.here hx rfl (hb hby at_64) rfl k) ?_
    show Go _ _ _ _ (T25.setTop (mkF m 65 #[iv p0, iv p1, iv p2, iv p3, rv g_1, rv b2, rv b12, iv 0, .unset, .unset, .unset, .unset, .unset, .unset, .unset, .unset] [(.int (((p2).toUInt32 >>> ((1 : Int32) &&& 31).toUInt32).toInt32 &&& (255 : Int32)))]))
    refine go_st (fun t k => XS.i2c X25.here hx rfl (hb hby at_65) rfl k) ?_
    show Go _ _ _ _ (T25.setTop (mkF m 66 #[iv p0, iv p1, iv p2, iv p3, rv g_1, rv b2, rv b12, iv 0, .unset, .unset, .unset, .unset, .unset, .unset, .unset, .unset] [(.int (((((p2).toUInt32 >>> ((1 : Int32) &&& 31).toUInt32).toInt32 &&& (255 : Int32))).toUInt32.toUInt16.toUInt32.toInt32))]))
    refine go_st (fun t k => XS.istore X25.here hx rfl (hb hby at_66) rfl (l' := #[iv p0, iv p1, iv p2, iv p3, rv g_1, rv b2, rv b12, iv 0, iv (((((p2).toUInt32 >>> ((1 : Int32) &&& 31).toUInt32).toInt32 &&& (255 : Int32))).toUInt32.toUInt16.toUInt32.toInt32), .unset, .unset, .unset, .unset, .unset, .unset, .unset]) rfl k) ?_
    show Go _ _ _ _ (T25.setTop (mkF m 68 #[iv p0, iv p1, iv p2, iv p3, rv g_1, rv b2, rv b12, iv 0, iv (((((p2).toUInt32 >>> ((1 : Int32) &&& 31).toUInt32).toInt32 &&& (255 : Int32))).toUInt32.toUInt16.toUInt32.toInt32), .unset, .unset, .unset, .unset, .unset, .unset, .unset] []))
    obtain ⟨c2, h_c2⟩ : ∃ z, z = (((((p2).toUInt32 >>> ((1 : Int32) &&& 31).toUInt32).toInt32 &&& (255 : Int32))).toUInt32.toUInt16.toUInt32.toInt32) := ⟨_, rfl⟩
    rw [← h_c2]
    show Go _ _ _ _ (T25.setTop (mkF m 68 #[iv p0, iv p1, iv p2, iv p3, rv g_1, rv b2, rv b12, iv 0, iv c2, .unset, .unset, .unset, .unset, .unset, .unset, .unset] []))
    have hc2 : ¬ c2 < 0 ∧ ¬ (255 : Int32) < c2 := by rw [h_c2]; exact and255_c _
    refine go_st (fun t k => XS.iload X25.here hx rfl (hb hby at_68) rfl k) ?_
    show Go _ _ _ _ (T25.setTop (mkF m 70 #[iv p0, iv p1, iv p2, iv p3, rv g_1, rv b2, rv b12, iv 0, iv c2, .unset, .unset, .unset, .unset, .unset, .unset, .unset] [(.int 0)]))
    refine go_st (fun t k => XS.ifYes X25.here hx rfl (pc0 := 70) (pc' := 81) rfl (hb hby at_70) rfl ((if0 _ _).trans (teq ((by decide) : (0 : Int32) = (0 : Int32))).1) (by decide) (by decide) k) ?_
    show Go _ _ _ _ (T25.setTop (mkF m 81 #[iv p0, iv p1, iv p2, iv p3, rv g_1, rv b2, rv b12, iv 0, iv c2, .unset, .unset, .unset, .unset, .unset, .unset, .unset] []))
    have sz31 : h0.size ≤ h25.size := (Nat.le_trans sz24 K25.1)
    obtain ⟨li30, T30, h30, kk30, t30, kb30, X30, e30, E30, hS30, hk30, hZ30, hown30, Es30, Cs30, Vs30, As30, lla30, llt30, hC30, -, hne30, st30⟩ := ldcCH (vm0 := s.vm) X25 hx hZ hown (w38 hw) (str_atoms hw) e25 hS0 (Nat.le_trans hk0 sz31) (hEL hw) (List.mem_of_getElem? (i := 1) rfl) C26.1 (vs := []) (z := (0 : Int32)) (by decide) (by decide) (by decide) (g := (mkF m 81 #[iv p0, iv p1, iv p2, iv p3, rv g_1, rv b2, rv b12, iv 0, iv c2, .unset, .unset, .unset, .unset, .unset, .unset, .unset] [])) rfl (hb hby at_81) (n := 0) (by decide) (by decide) (by decide) (by decide)
    have C32 : CHr Z consts_1 s.vm h0 T30.vm h30 := CHr.trans C26 hC30
    refine go_st (fun t k => st30 t k) ?_
    show Go _ _ _ _ (T30.setTop (mkF m 83 #[iv p0, iv p1, iv p2, iv p3, rv g_1, rv b2, rv b12, iv 0, iv c2, .unset, .unset, .unset, .unset, .unset, .unset, .unset] [(.ref li30)]))
    have f33 : Arv Z h30 t30 kb30 .byte (0 : Int32) [] (.int 0) := As30
    refine go_st (fun t k => XS.astore X30.here hx rfl (hb hby at_83) rfl rfl (l' := #[iv p0, iv p1, iv p2, iv p3, rv g_1, rv b2, rv b12, iv 0, iv c2, rv li30, .unset, .unset, .unset, .unset, .unset, .unset]) rfl k) ?_
    show Go _ _ _ _ (T30.setTop (mkF m 85 #[iv p0, iv p1, iv p2, iv p3, rv g_1, rv b2, rv b12, iv 0, iv c2, rv li30, .unset, .unset, .unset, .unset, .unset, .unset] []))
    refine go_st (fun t k => XS.iconst X30.here hx rfl (hb hby at_85) k) ?_
    show Go _ _ _ _ (T30.setTop (mkF m 86 #[iv p0, iv p1, iv p2, iv p3, rv g_1, rv b2, rv b12, iv 0, iv c2, rv li30, .unset, .unset, .unset, .unset, .unset, .unset] [(.int 2)]))
    obtain ⟨T34, h34, kc34, X34, e34, E34, A34, st34⟩ := newP X30 hx hZ30 (aty := .char) (w8 hw) e30 (g := (mkF m 86 #[iv p0, iv p1, iv p2, iv p3, rv g_1, rv b2, rv b12, iv 0, iv c2, rv li30, .unset, .unset, .unset, .unset, .unset, .unset] [(.int 2)])) rfl (hb hby at_86) rfl (by decide) (cap := 2) (by decide) (by decide) (by decide) (by decide)
    obtain ⟨b34, gq34⟩ : ∃ z, z = h30.size := ⟨_, rfl⟩
    rw [← gq34] at A34 st34
    have C35 : CHr Z consts_1 s.vm h0 T30.vm h34 := CHr.trans C32 (CHr.ext E34 C32.1)
    have f36 : Arv Z h34 b34 kc34 .char (2 : Int32) [(.int 0), (.int 0)] (.int 0) := (Arv.new A34 (by decide)).pad (pad_rep [] (.int 0) 2)
    refine go_st (fun t k => st34 t k) ?_
    show Go _ _ _ _ (T34.setTop (mkF m 88 #[iv p0, iv p1, iv p2, iv p3, rv g_1, rv b2, rv b12, iv 0, iv c2, rv li30, .unset, .unset, .unset, .unset, .unset, .unset] [(.ref b34)]))
    refine go_st (fun t k => XS.astore X34.here hx rfl (hb hby at_88) rfl rfl (l' := #[iv p0, iv p1, iv p2, iv p3, rv g_1, rv b2, rv b12, iv 0, iv c2, rv li30, rv b34, .unset, .unset, .unset, .unset, .unset]) rfl k) ?_
    show Go _ _ _ _ (T34.setTop (mkF m 90 #[iv p0, iv p1, iv p2, iv p3, rv g_1, rv b2, rv b12, iv 0, iv c2, rv li30, rv b34, .unset, .unset, .unset, .unset, .unset] []))
    refine go_st (fun t k => XS.aload X34.here hx rfl (hb hby at_90) rfl rfl k) ?_
    show Go _ _ _ _ (T34.setTop (mkF m 92 #[iv p0, iv p1, iv p2, iv p3, rv g_1, rv b2, rv b12, iv 0, iv c2, rv li30, rv b34, .unset, .unset, .unset, .unset, .unset] [(.ref b34)]))
    refine go_st (fun t k => XS.iconst X34.here hx rfl (hb hby at_92) k) ?_
    show Go _ _ _ _ (T34.setTop (mkF m 93 #[iv p0, iv p1, iv p2, iv p3, rv g_1, rv b2, rv b12, iv 0, iv c2, rv li30, rv b34, .unset, .unset, .unset, .unset, .unset] [(.int 0), (.ref b34)]))
    refine go_st (fun t k => XS.iloadN X34.here hx rfl (hb hby at_93) rfl k) ?_
    show Go _ _ _ _ (T34.setTop (mkF m 94 #[iv p0, iv p1, iv p2, iv p3, rv g_1, rv b2, rv b12, iv 0, iv c2, rv li30, rv b34, .unset, .unset, .unset, .unset, .unset] [(.int p3), (.int 0), (.ref b34)]))
    refine go_st (fun t k => XS.sipush X34.here hx rfl (hb hby at_94) k) ?_
    show Go _ _ _ _ (T34.setTop (mkF m 97 #[iv p0, iv p1, iv p2, iv p3, rv g_1, rv b2, rv b12, iv 0, iv c2, rv li30, rv b34, .unset, .unset, .unset, .unset, .unset] [(.int 255), (.int p3), (.int 0), (.ref b34)]))
    refine go_st (fun t k => XS.iand X34.here hx rfl (hb hby at_97) rfl k) ?_
    show Go _ _ _ _ (T34.setTop (mkF m 98 #[iv p0, iv p1, iv p2, iv p3, rv g_1, rv b2, rv b12, iv 0, iv c2, rv li30, rv b34, .unset, .unset, .unset, .unset, .unset] [(.int (p3 &&& (255 : Int32))), (.int 0), (.ref b34)]))
    refine go_st (fun t k => XS.i2c X34.here hx rfl (hb hby at_98) rfl k) ?_
    show Go _ _ _ _ (T34.setTop (mkF m 99 #[iv p0, iv p1, iv p2, iv p3, rv g_1, rv b2, rv b12, iv 0, iv c2, rv li30, rv b34, .unset, .unset, .unset, .unset, .unset] [(.int (((p3 &&& (255 : Int32))).toUInt32.toUInt16.toUInt32.toInt32)), (.int 0), (.ref b34)]))
    obtain ⟨c3, h_c3⟩ : ∃ z, z = (((p3 &&& (255 : Int32))).toUInt32.toUInt16.toUInt32.toInt32) := ⟨_, rfl⟩
    rw [← h_c3]
    show Go _ _ _ _ (T34.setTop (mkF m 99 #[iv p0, iv p1, iv p2, iv p3, rv g_1, rv b2, rv b12, iv 0, iv c2, rv li30, rv b34, .unset, .unset, .unset, .unset, .unset] [(.int c3), (.int 0), (.ref b34)]))
    have hc3 : ¬ c3 < 0 ∧ ¬ (255 : Int32) < c3 := by rw [h_c3]; exact and255_c _
    obtain ⟨zc37, zA37, zq37, zS37, zN37, zH37, zG37⟩ := id f36
    have hin37 : ¬ ((0 : Int32) < 0 ∨ zc37.slots.size ≤ ((0 : Int32)).toNatClampNeg) := inb_of zS37 ⟨by decide, by decide⟩
    obtain ⟨T37, h37, X37, e37, W37, st37⟩ := stC X34 hx hZ30 e34 zA37 (j := (0 : Int32)) hin37 (g := (mkF m 99 #[iv p0, iv p1, iv p2, iv p3, rv g_1, rv b2, rv b12, iv 0, iv c2, rv li30, rv b34, .unset, .unset, .unset, .unset, .unset] [(.int c3), (.int 0), (.ref b34)])) rfl rfl (hb hby at_99)
    have sz38 : h0.size ≤ h30.size := (Nat.le_trans sz31 E30.1)
    have g_b34 : n0 ≤ b34 := Nat.le_trans (Nat.le_trans Z0 sz38) (Nat.le_of_eq gq34.symm)
    have N37 := Fr.snoc X37 N25 g_b34
    have C39 : CHr Z consts_1 s.vm h0 T30.vm h37 := CHr.trans C35 (CHr.wr W37 (Safe.arv hZ30.alike f36 (by decide)) C35.1)
    have f40 : Arv Z h37 b34 kc34 .char (2 : Int32) [(.int (nar .char c3)), (.int 0)] (.int 0) := Arv.set zA37 zq37 zS37 zN37 zH37 zG37 (fits_nar_char _) W37 0 rfl (Nat.le_of_ble_eq_true rfl)
    refine go_st (fun t k => st37 t k) ?_
    show Go _ _ _ _ (T37.setTop (mkF m 100 #[iv p0, iv p1, iv p2, iv p3, rv g_1, rv b2, rv b12, iv 0, iv c2, rv li30, rv b34, .unset, .unset, .unset, .unset, .unset] []))
    refine go_st (fun t k => XS.aload X37.here hx rfl (hb hby at_100) rfl rfl k) ?_
    show Go _ _ _ _ (T37.setTop (mkF m 102 #[iv p0, iv p1, iv p2, iv p3, rv g_1, rv b2, rv b12, iv 0, iv c2, rv li30, rv b34, .unset, .unset, .unset, .unset, .unset] [(.ref b34)]))
    refine go_st (fun t k => XS.iconst X37.here hx rfl (hb hby at_102) k) ?_
    show Go _ _ _ _ (T37.setTop (mkF m 103 #[iv p0, iv p1, iv p2, iv p3, rv g_1, rv b2, rv b12, iv 0, iv c2, rv li30, rv b34, .unset, .unset, .unset, .unset, .unset] [(.int 1), (.ref b34)]))
    refine go_st (fun t k => XS.iloadN X37.here hx rfl (hb hby at_103) rfl k) ?_
    show Go _ _ _ _ (T37.setTop (mkF m 104 #[iv p0, iv p1, iv p2, iv p3, rv g_1, rv b2, rv b12, iv 0, iv c2, rv li30, rv b34, .unset, .unset, .unset, .unset, .unset] [(.int p3), (.int 1), (.ref b34)]))
    refine go_st (fun t k => XS.bipush X37.here hx rfl (hb hby at_104) k) ?_
    show Go _ _ _ _ (T37.setTop (mkF m 106 #[iv p0, iv p1, iv p2, iv p3, rv g_1, rv b2, rv b12, iv 0, iv c2, rv li30, rv b34, .unset, .unset, .unset, .unset, .unset] [(.int 8), (.int p3), (.int 1), (.ref b34)]))
    refine go_st (fun t k => XS.iushr X37.here hx rfl (hb hby at_106) rfl k) ?_
    show Go _ _ _ _ (T37.setTop (mkF m 107 #[iv p0, iv p1, iv p2, iv p3, rv g_1, rv b2, rv b12, iv 0, iv c2, rv li30, rv b34, .unset, .unset, .unset, .unset, .unset] [(.int ((p3).toUInt32 >>> ((8 : Int32) &&& 31).toUInt32).toInt32), (.int 1), (.ref b34)]))
    refine go_st (fun t k => XS.sipush X37.here hx rfl (hb hby at_107) k) ?_
    show Go _ _ _ _ (T37.setTop (mkF m 110 #[iv p0, iv p1, iv p2, iv p3, rv g_1, rv b2, rv b12, iv 0, iv c2, rv li30, rv b34, .unset, .unset, .unset, .unset, .unset] [(.int 255), (.int ((p3).toUInt32 >>> ((8 : Int32) &&& 31).toUInt32).toInt32), (.int 1), (.ref b34)]))
    refine go_st (fun t k => XS.iand X37.here hx rfl (hb hby at_110) rfl k) ?_
    show Go _ _ _ _ (T37.setTop (mkF m 111 #[iv p0, iv p1, iv p2, iv p3, rv g_1, rv b2, rv b12, iv 0, iv c2, rv li30, rv b34, .unset, .unset, .unset, .unset, .unset] [(.int (((p3).toUInt32 >>> ((8 : Int32) &&& 31).toUInt32).toInt32 &&& (255 : Int32))), (.int 1), (.ref b34)]))
    refine go_st (fun t k => XS.i2c X37.here hx rfl (hb hby at_111) rfl k) ?_
    show Go _ _ _ _ (T37.setTop (mkF m 112 #[iv p0, iv p1, iv p2, iv p3, rv g_1, rv b2, rv b12, iv 0, iv c2, rv li30, rv b34, .unset, .unset, .unset, .unset, .unset] [(.int (((((p3).toUInt32 >>> ((8 : Int32) &&& 31).toUInt32).toInt32 &&& (255 : Int32))).toUInt32.toUInt16.toUInt32.toInt32)), (.int 1), (.ref b34)]))
    obtain ⟨c4, h_c4⟩ : ∃ z, z = (((((p3).toUInt32 >>> ((8 : Int32) &&& 31).toUInt32).toInt32 &&& (255 : Int32))).toUInt32.toUInt16.toUInt32.toInt32) := ⟨_, rfl⟩
    rw [← h_c4]
    show Go _ _ _ _ (T37.setTop (mkF m 112 #[iv p0, iv p1, iv p2, iv p3, rv g_1, rv b2, rv b12, iv 0, iv c2, rv li30, rv b34, .unset, .unset, .unset, .unset, .unset] [(.int c4), (.int 1), (.ref b34)]))
    have hc4 : ¬ c4 < 0 ∧ ¬ (255 : Int32) < c4 := by rw [h_c4]; exact and255_c _
    obtain ⟨zc41, zA41, zq41, zS41, zN41, zH41, zG41⟩ := id f40
    have hin41 : ¬ ((1 : Int32) < 0 ∨ zc41.slots.size ≤ ((1 : Int32)).toNatClampNeg) := inb_of zS41 ⟨by decide, by decide⟩
    obtain ⟨T41, h41, X41, e41, W41, st41⟩ := stC X37 hx hZ30 e37 zA41 (j := (1 : Int32)) hin41 (g := (mkF m 112 #[iv p0, iv p1, iv p2, iv p3, rv g_1, rv b2, rv b12, iv 0, iv c2, rv li30, rv b34, .unset, .unset, .unset, .unset, .unset] [(.int c4), (.int 1), (.ref b34)])) rfl rfl (hb hby at_112)
    have N41 := Fr.snoc X41 N37 g_b34
    have C42 : CHr Z consts_1 s.vm h0 T30.vm h41 := CHr.trans C39 (CHr.wr W41 (Safe.arv hZ30.alike f40 (by decide)) C39.1)
    have f43 : Arv Z h41 b34 kc34 .char (2 : Int32) [(.int (nar .char c3)), (.int (nar .char c4))] (.int 0) := Arv.set zA41 zq41 zS41 zN41 zH41 zG41 (fits_nar_char _) W41 1 rfl (Nat.le_of_ble_eq_true rfl)
    refine go_st (fun t k => st41 t k) ?_
    show Go _ _ _ _ (T41.setTop (mkF m 113 #[iv p0, iv p1, iv p2, iv p3, rv g_1, rv b2, rv b12, iv 0, iv c2, rv li30, rv b34, .unset, .unset, .unset, .unset, .unset] []))
    have f44 : Arv Z h41 b34 kc34 .char (2 : Int32) [(.int c3), (.int c4)] (.int 0) := by have q := f43; rw [nar_c hc3, nar_c hc4] at q; exact q
    obtain ⟨T45, h45, X45, e45, E45, A45, D45, -, st45⟩ := newO X41 hx hZ30 hown30 (w9 hw) (w10 hw) (w11 hw) e41 (g := (mkF m 113 #[iv p0, iv p1, iv p2, iv p3, rv g_1, rv b2, rv b12, iv 0, iv c2, rv li30, rv b34, .unset, .unset, .unset, .unset, .unset] [])) rfl (hb hby at_113) (by decide) (by decide)
    obtain ⟨b45, gq45⟩ : ∃ z, z = h41.size := ⟨_, rfl⟩
    rw [← gq45] at A45 D45 st45
    have sn45 : Safe Z consts_1 T30.vm h41 b45 := Safe.new (Nat.le_of_eq gq45.symm)
    have C46 : CHr Z consts_1 s.vm h0 T30.vm h45 := CHr.trans C42 (CHr.ext E45 C42.1)
    have sf47 : Safe Z consts_1 T30.vm h45 b45 := Safe.ext E45 C42.1 sn45
    have f48 : Fld Z h45 b45 "java/lang/String" "coder" "B" (.int 0) := D45 (Or.inr (w35 hw)) (ty := .byte) (by decide)
    have f49 : Fld Z h45 b45 "java/lang/String" "value" "[B" .null := D45 (Or.inr (w37 hw)) (ty := (.array .byte)) (by decide)
    refine go_st (fun t k => st45 t k) ?_
    show Go _ _ _ _ (T45.setTop (mkF m 116 #[iv p0, iv p1, iv p2, iv p3, rv g_1, rv b2, rv b12, iv 0, iv c2, rv li30, rv b34, .unset, .unset, .unset, .unset, .unset] [(.ref b45)]))
    refine go_st (fun t k => XS.dup X45.here hx rfl (hb hby at_116) rfl rfl k) ?_
    show Go _ _ _ _ (T45.setTop (mkF m 117 #[iv p0, iv p1, iv p2, iv p3, rv g_1, rv b2, rv b12, iv 0, iv c2, rv li30, rv b34, .unset, .unset, .unset, .unset, .unset] [(.ref b45), (.ref b45)]))
    refine go_st (fun t k => XS.aload X45.here hx rfl (hb hby at_117) rfl rfl k) ?_
    show Go _ _ _ _ (T45.setTop (mkF m 119 #[iv p0, iv p1, iv p2, iv p3, rv g_1, rv b2, rv b12, iv 0, iv c2, rv li30, rv b34, .unset, .unset, .unset, .unset, .unset] [(.ref b34), (.ref b45), (.ref b45)]))
    have f50 : Arv Z h45 b34 kc34 .char (2 : Int32) [(.int c3), (.int c4)] (.int 0) := (f44.ext E45)
    have oe51 : Old Z n0 h25 := (Old.keep oe21 K25 (allS g_b12 all0))
    have oe52 : Old Z n0 h30 := (Old.ext oe51 E30)
    have oe53 : Old Z n0 h34 := (Old.ext oe52 E34)
    have oe54 : Old Z n0 h37 := (Old.wr oe53 W37 g_b34)
    have oe55 : Old Z n0 h41 := (Old.wr oe54 W41 g_b34)
    have oe56 : Old Z n0 h45 := (Old.ext oe55 E45)
    have sz57 : h0.size ≤ h34.size := (Nat.le_trans sz38 E34.1)
    have sz58 : h0.size ≤ h37.size := (Nat.le_trans sz57 (Nat.le_of_eq W37.size.symm))
    have sz59 : h0.size ≤ h41.size := (Nat.le_trans sz58 (Nat.le_of_eq W41.size.symm))
    have g_b45 : n0 ≤ b45 := Nat.le_trans (Nat.le_trans Z0 sz59) (Nat.le_of_eq gq45.symm)
    have sz60 : h0.size ≤ h45.size := (Nat.le_trans sz59 E45.1)
    obtain ⟨_, _, ⟨T61, L61, kk61, nn61⟩, -, X61, ⟨Lc61, hQ61, lq61, yq61, zq61⟩, st61⟩ := X45.specialBack hx (y := (⟨"java/lang/String", "<init>", "([C)V"⟩ : MethodName)) rfl hown30 (mvT hZ30 (w12 hw)) (mvT hZ30 (w13 hw)) (mvT hZ30 (w14 hw)) (by decide) (StrChars.Road.backV (W := 1) hZ30 (words_in str_words hw) (kI := 4) (w10 hw) (cs := ([c3, c4] : List Int32)) (bs := ([c3, c4] : List Int32).map (fun c => c.toInt8.toInt32)) (n := 2) g_b45 (Nat.le_trans Z0 sz60) A45 f49 f48 f50 (Sta.ext oe56.2 CS) CSn rfl rfl (by decide) (by decide) (chars_cons hc3 (chars_cons hc4 chars_nil)) rfl (by decide) (by decide)) (g := (mkF m 119 #[iv p0, iv p1, iv p2, iv p3, rv g_1, rv b2, rv b12, iv 0, iv c2, rv li30, rv b34, .unset, .unset, .unset, .unset, .unset] [(.ref b34), (.ref b45), (.ref b45)])) rfl (by rw [hml]; rfl) (Steps.refl _) (a := b45) (argsL := [(.ref b34)]) (rest := [(.ref b45)]) (lenOf pd_19 rfl) rfl (by show 2 * 0 + _ ≤ _; exact Nat.le_of_eq rfl) (hb hby at_119) (fun _ _ => ⟨rfl, e45, (by decide : 7 + 1 ≤ _), (by decide : 18 + 2 ≤ _)⟩)
    dsimp only [Pt.U, Pt.locs, Pt.cells, Pt.slots] at X61 lq61 yq61 zq61 st61 hQ61
    obtain rfl : kk61 = 8 := yq61
    obtain rfl : nn61 = 20 := zq61
    obtain ⟨h61, e61⟩ : ∃ z, T61.heap = z := ⟨_, rfl⟩
    rw [e61] at hQ61
    obtain ⟨rfl, N61q, K61, Es61, Cs61, t61, kb61, gt61, lt61, nt61, Vs61, As61⟩ := hQ61
    have N61 : Fr n0 L61 := by rw [lq61]; exact Fr.app N41 N61q
    have C62 : CHr Z consts_1 s.vm h0 T30.vm h61 := CHr.trans C46 (CHr.keep K61 (sfS sf47 sf0) C46.1)
    have sf63 : Safe Z consts_1 T30.vm h61 b45 := (Safe.keep K61 (sfS sf47 sf0) C46.1 sf47)
    refine go_tr st61 ?_
    show Go _ _ _ _ (T61.setTop (mkF m 122 #[iv p0, iv p1, iv p2, iv p3, rv g_1, rv b2, rv b12, iv 0, iv c2, rv li30, rv b34, .unset, .unset, .unset, .unset, .unset] [(.ref b45)]))
    have f64 : Arv Z h61 t61 kb61 .byte (2 : Int32) [(.int (c3.toInt8.toInt32)), (.int (c4.toInt8.toInt32))] (.int 0) := As61
    refine go_st (fun t k => XS.astore X61.here hx rfl (hb hby at_122) rfl rfl (l' := #[iv p0, iv p1, iv p2, iv p3, rv g_1, rv b2, rv b12, iv 0, iv c2, rv li30, rv b34, rv b45, .unset, .unset, .unset, .unset]) rfl k) ?_
    show Go _ _ _ _ (T61.setTop (mkF m 124 #[iv p0, iv p1, iv p2, iv p3, rv g_1, rv b2, rv b12, iv 0, iv c2, rv li30, rv b34, rv b45, .unset, .unset, .unset, .unset] []))
    refine go_st (fun t k => XS.aload X61.here hx rfl (hb hby at_124) rfl rfl k) ?_
    show Go _ _ _ _ (T61.setTop (mkF m 126 #[iv p0, iv p1, iv p2, iv p3, rv g_1, rv b2, rv b12, iv 0, iv c2, rv li30, rv b34, rv b45, .unset, .unset, .unset, .unset] [(.ref b12)]))
    refine go_st (fun t k => XS.aload X61.here hx rfl (hb hby at_126) rfl rfl k) ?_
    show Go _ _ _ _ (T61.setTop (mkF m 128 #[iv p0, iv p1, iv p2, iv p3, rv g_1, rv b2, rv b12, iv 0, iv c2, rv li30, rv b34, rv b45, .unset, .unset, .unset, .unset] [(.ref g_1), (.ref b12)]))
    refine go_st (fun t k => XS.aload X61.here hx rfl (hb hby at_128) rfl rfl k) ?_
    show Go _ _ _ _ (T61.setTop (mkF m 130 #[iv p0, iv p1, iv p2, iv p3, rv g_1, rv b2, rv b12, iv 0, iv c2, rv li30, rv b34, rv b45, .unset, .unset, .unset, .unset] [(.ref li30), (.ref g_1), (.ref b12)]))
    refine go_st (fun t k => XS.aload X61.here hx rfl (hb hby at_130) rfl rfl k) ?_
    show Go _ _ _ _ (T61.setTop (mkF m 132 #[iv p0, iv p1, iv p2, iv p3, rv g_1, rv b2, rv b12, iv 0, iv c2, rv li30, rv b34, rv b45, .unset, .unset, .unset, .unset] [(.ref b45), (.ref li30), (.ref g_1), (.ref b12)]))
    have sz65 : h0.size ≤ h61.size := (Nat.le_trans sz60 K61.1)
    obtain ⟨_, _, ⟨T66, L66, kk66, nn66⟩, -, X66, ⟨Lc66, hQ66, lq66, yq66, zq66⟩, st66⟩ := Jvm.LawKit.callS X61 hx (y := (⟨"com/example/tuplet/tuplet/Commands$Option", "of", "(Ljava/lang/String;Lcom/example/tuplet/tuplet/Commands$Kind;Ljava/lang/String;Ljava/lang/String;)Lcom/example/tuplet/tuplet/Commands$Option;"⟩ : MethodName)) hown30 (mvT hZ30 (w41 hw)) (mvT hZ30 (w42 hw)) (mvT hZ30 (w43 hw)) (mvT hZ30 (w44 hw)) (by decide) (backOf (W := 0) (rm_of l Z a0 hw [] (.ref b12) (.ref g_1) (.ref li30) (.ref b45) h61 n0 (Nat.le_trans Z0 sz65) rfl rfl rfl rfl) hZ30 (w44 hw) (w43 hw) (by decide) (by decide)) (g := (mkF m 132 #[iv p0, iv p1, iv p2, iv p3, rv g_1, rv b2, rv b12, iv 0, iv c2, rv li30, rv b34, rv b45, .unset, .unset, .unset, .unset] [(.ref b45), (.ref li30), (.ref g_1), (.ref b12)])) rfl (by rw [hml]; rfl) (argsL := [(.ref b12), (.ref g_1), (.ref li30), (.ref b45)]) (rest := []) (lenOf pd_20 rfl) rfl (by show 2 * 0 + _ ≤ _; exact Nat.le_of_eq rfl) (hb hby at_132) (fun _ _ => ⟨rfl, e61, (by decide : 8 + 1 ≤ _), (by decide : 20 + 6 ≤ _)⟩)
    dsimp only [Pt.U, Pt.locs, Pt.cells, Pt.slots] at X66 lq66 yq66 zq66 st66 hQ66
    obtain rfl : kk66 = 9 := yq66
    obtain rfl : nn66 = 26 := zq66
    obtain ⟨h66, e66⟩ : ∃ z, T66.heap = z := ⟨_, rfl⟩
    rw [e66] at hQ66
    obtain ⟨b_66, rfl, N66q, K66, gf66_0, lf66_0, p66_1, p66_2, p66_3, p66_4, p66_5, p66_6, p66_7⟩ := hQ66
    have N66 : Fr n0 L66 := by rw [lq66]; exact Fr.app N61 N66q
    have C67 : CHr Z consts_1 s.vm h0 T30.vm h66 := CHr.trans C62 (CHr.keep K66 sf0 C62.1)
    refine go_st st66 ?_
    show Go _ _ _ _ (T66.setTop (mkF m 135 #[iv p0, iv p1, iv p2, iv p3, rv g_1, rv b2, rv b12, iv 0, iv c2, rv li30, rv b34, rv b45, .unset, .unset, .unset, .unset] [(.ref b_66)]))
    refine go_st (fun t k => XS.astore X66.here hx rfl (hb hby at_135) rfl rfl (l' := #[iv p0, iv p1, iv p2, iv p3, rv g_1, rv b2, rv b12, iv 0, iv c2, rv li30, rv b34, rv b45, rv b_66, .unset, .unset, .unset]) rfl k) ?_
    show Go _ _ _ _ (T66.setTop (mkF m 137 #[iv p0, iv p1, iv p2, iv p3, rv g_1, rv b2, rv b12, iv 0, iv c2, rv li30, rv b34, rv b45, rv b_66, .unset, .unset, .unset] []))
    refine go_st (fun t k => XS.aload X66.here hx rfl (hb hby at_137) rfl rfl k) ?_
    show Go _ _ _ _ (T66.setTop (mkF m 139 #[iv p0, iv p1, iv p2, iv p3, rv g_1, rv b2, rv b12, iv 0, iv c2, rv li30, rv b34, rv b45, rv b_66, .unset, .unset, .unset] [(.ref b_66)]))
    have sz68 : h0.size ≤ h66.size := (Nat.le_trans sz65 K66.1)
    obtain ⟨cq69, kq69, q69a, q69b, q69c⟩ := isOf hZ30 e66 p66_1
    obtain ⟨_, _, ⟨T69, L69, kk69, nn69⟩, -, X69, ⟨Lc69, hQ69, lq69, yq69, zq69⟩, st69⟩ := X66.virtualBack hx (y := (⟨"com/example/tuplet/tuplet/Commands$Option", "name", "()Ljava/lang/String;"⟩ : MethodName)) (z := (⟨"com/example/tuplet/tuplet/Commands$Option", "name", "()Ljava/lang/String;"⟩ : MethodName)) hown30 (mvT hZ30 (w68 hw)) (mvT hZ30 (w69 hw)) (notFace_of_selects (args := #[]) (mvT hZ30 (w71 hw))) (mvT hZ30 (w71 hw)) (mvT hZ30 (w70 hw)) (by decide) (backOf (W := 0) (rm_get_name l Z a0 hw [] b_66 (.ref b12) h66 n0 (Nat.le_trans Z0 sz68) p66_2 rfl) hZ30 (w72 hw) (w43 hw) (by decide) (by decide)) q69a q69c (g := (mkF m 139 #[iv p0, iv p1, iv p2, iv p3, rv g_1, rv b2, rv b12, iv 0, iv c2, rv li30, rv b34, rv b45, rv b_66, .unset, .unset, .unset] [(.ref b_66)])) rfl (by rw [hml]; rfl) (Steps.refl _) (argsL := []) (rest := []) (lenOf pd_17 rfl) rfl (by show 2 * 0 + _ ≤ _; exact Nat.le_of_eq rfl) (hb hby at_139) (fun _ _ => ⟨rfl, e66, (by decide : 9 + 0 ≤ _), (by decide : 26 + 0 ≤ _)⟩)
    dsimp only [Pt.U, Pt.locs, Pt.cells, Pt.slots] at X69 lq69 yq69 zq69 st69 hQ69
    obtain rfl : kk69 = 9 := yq69
    obtain rfl : nn69 = 26 := zq69
    obtain ⟨h69, e69⟩ : ∃ z, T69.heap = z := ⟨_, rfl⟩
    rw [e69] at hQ69
    obtain ⟨rfl, N69q, he69⟩ := hQ69
    have N69 : Fr n0 L69 := by rw [lq69]; exact Fr.app N66 N69q
    rw [he69] at e69
    refine go_tr st69 ?_
    show Go _ _ _ _ (T69.setTop (mkF m 142 #[iv p0, iv p1, iv p2, iv p3, rv g_1, rv b2, rv b12, iv 0, iv c2, rv li30, rv b34, rv b45, rv b_66, .unset, .unset, .unset] [(.ref b12)]))
    refine go_st (fun t k => XS.aload X69.here hx rfl (hb hby at_142) rfl rfl k) ?_
    show Go _ _ _ _ (T69.setTop (mkF m 144 #[iv p0, iv p1, iv p2, iv p3, rv g_1, rv b2, rv b12, iv 0, iv c2, rv li30, rv b34, rv b45, rv b_66, .unset, .unset, .unset] [(.ref b12), (.ref b12)]))
    have f71 : Exa Z h66 b12 "java/lang/String" := (((((((Es25.ext E30).ext E34).wr W37).wr W41).ext E45).keep K61).keep K66)
    obtain ⟨cq70, kq70, q70a, q70b, q70c⟩ := isOf hZ30 e69 f71
    obtain ⟨_, _, ⟨T70, L70, kk70, nn70⟩, -, X70, ⟨Lc70, hQ70, lq70, yq70, zq70⟩, st70⟩ := X69.virtualBack hx (y := (⟨"java/lang/String", "equals", "(Ljava/lang/Object;)Z"⟩ : MethodName)) (z := (⟨"java/lang/String", "equals", "(Ljava/lang/Object;)Z"⟩ : MethodName)) hown30 (mvT hZ30 (w73 hw)) (mvT hZ30 (w74 hw)) (notFace_of_selects (args := #[]) (mvT hZ30 (w76 hw))) (mvT hZ30 (w76 hw)) (mvT hZ30 (w75 hw)) (by decide) (backOf (W := 0) (rm_eqsame l Z a0 hw [] b12 h66 n0 (Nat.le_trans Z0 sz68) ) hZ30 (w77 hw) (w11 hw) (by decide) (by decide)) q70a q70c (g := (mkF m 144 #[iv p0, iv p1, iv p2, iv p3, rv g_1, rv b2, rv b12, iv 0, iv c2, rv li30, rv b34, rv b45, rv b_66, .unset, .unset, .unset] [(.ref b12), (.ref b12)])) rfl (by rw [hml]; rfl) (Steps.refl _) (argsL := [(.ref b12)]) (rest := []) (lenOf pd_21 rfl) rfl (by show 2 * 0 + _ ≤ _; exact Nat.le_of_eq rfl) (hb hby at_144) (fun _ _ => ⟨rfl, e69, (by decide : 9 + 0 ≤ _), (by decide : 26 + 0 ≤ _)⟩)
    dsimp only [Pt.U, Pt.locs, Pt.cells, Pt.slots] at X70 lq70 yq70 zq70 st70 hQ70
    obtain rfl : kk70 = 9 := yq70
    obtain rfl : nn70 = 26 := zq70
    obtain ⟨h70, e70⟩ : ∃ z, T70.heap = z := ⟨_, rfl⟩
    rw [e70] at hQ70
    obtain ⟨rfl, N70q, he70⟩ := hQ70
    have N70 : Fr n0 L70 := by rw [lq70]; exact Fr.app N69 N70q
    rw [he70] at e70
    refine go_tr st70 ?_
    show Go _ _ _ _ (T70.setTop (mkF m 147 #[iv p0, iv p1, iv p2, iv p3, rv g_1, rv b2, rv b12, iv 0, iv c2, rv li30, rv b34, rv b45, rv b_66, .unset, .unset, .unset] [(.int 1)]))
    refine go_st (fun t k => XS.ifNo X70.here hx rfl (hb hby at_147) rfl ((if0 _ _).trans (feq ((by decide) : ¬ ((1 : Int32) = (0 : Int32)))).1) k) ?_
    show Go _ _ _ _ (T70.setTop (mkF m 150 #[iv p0, iv p1, iv p2, iv p3, rv g_1, rv b2, rv b12, iv 0, iv c2, rv li30, rv b34, rv b45, rv b_66, .unset, .unset, .unset] []))
    refine go_st (fun t k => XS.aload X70.here hx rfl (hb hby at_150) rfl rfl k) ?_
    show Go _ _ _ _ (T70.setTop (mkF m 152 #[iv p0, iv p1, iv p2, iv p3, rv g_1, rv b2, rv b12, iv 0, iv c2, rv li30, rv b34, rv b45, rv b_66, .unset, .unset, .unset] [(.ref b_66)]))
    obtain ⟨cq72, kq72, q72a, q72b, q72c⟩ := isOf hZ30 e70 p66_1
    obtain ⟨_, _, ⟨T72, L72, kk72, nn72⟩, -, X72, ⟨Lc72, hQ72, lq72, yq72, zq72⟩, st72⟩ := X70.virtualBack hx (y := (⟨"com/example/tuplet/tuplet/Commands$Option", "kind", "()Lcom/example/tuplet/tuplet/Commands$Kind;"⟩ : MethodName)) (z := (⟨"com/example/tuplet/tuplet/Commands$Option", "kind", "()Lcom/example/tuplet/tuplet/Commands$Kind;"⟩ : MethodName)) hown30 (mvT hZ30 (w78 hw)) (mvT hZ30 (w79 hw)) (nf_same (y := (⟨"com/example/tuplet/tuplet/Commands$Option", "kind", "()Lcom/example/tuplet/tuplet/Commands$Kind;"⟩ : MethodName)) (y' := (⟨"com/example/tuplet/tuplet/Commands$Option", "name", "()Ljava/lang/String;"⟩ : MethodName)) (a0 := #[]) rfl (mvT hZ30 (w70 hw)) (notFace_of_selects (args := #[]) (mvT hZ30 (w71 hw)))) (mvT hZ30 (w81 hw)) (mvT hZ30 (w80 hw)) (by decide) (backOf (W := 0) (rm_get_kind l Z a0 hw [] b_66 (.ref g_1) h66 n0 (Nat.le_trans Z0 sz68) p66_3 rfl) hZ30 (w82 hw) (w43 hw) (by decide) (by decide)) q72a q72c (g := (mkF m 152 #[iv p0, iv p1, iv p2, iv p3, rv g_1, rv b2, rv b12, iv 0, iv c2, rv li30, rv b34, rv b45, rv b_66, .unset, .unset, .unset] [(.ref b_66)])) rfl (by rw [hml]; rfl) (Steps.refl _) (argsL := []) (rest := []) (lenOf pd_22 rfl) rfl (by show 2 * 0 + _ ≤ _; exact Nat.le_of_eq rfl) (hb hby at_152) (fun _ _ => ⟨rfl, e70, (by decide : 9 + 0 ≤ _), (by decide : 26 + 0 ≤ _)⟩)
    dsimp only [Pt.U, Pt.locs, Pt.cells, Pt.slots] at X72 lq72 yq72 zq72 st72 hQ72
    obtain rfl : kk72 = 9 := yq72
    obtain rfl : nn72 = 26 := zq72
    obtain ⟨h72, e72⟩ : ∃ z, T72.heap = z := ⟨_, rfl⟩
    rw [e72] at hQ72
    obtain ⟨rfl, N72q, he72⟩ := hQ72
    have N72 : Fr n0 L72 := by rw [lq72]; exact Fr.app N70 N72q
    rw [he72] at e72
    refine go_tr st72 ?_
    show Go _ _ _ _ (T72.setTop (mkF m 155 #[iv p0, iv p1, iv p2, iv p3, rv g_1, rv b2, rv b12, iv 0, iv c2, rv li30, rv b34, rv b45, rv b_66, .unset, .unset, .unset] [(.ref g_1)]))
    refine go_st (fun t k => XS.aload X72.here hx rfl (hb hby at_155) rfl rfl k) ?_
    show Go _ _ _ _ (T72.setTop (mkF m 157 #[iv p0, iv p1, iv p2, iv p3, rv g_1, rv b2, rv b12, iv 0, iv c2, rv li30, rv b34, rv b45, rv b_66, .unset, .unset, .unset] [(.ref g_1), (.ref g_1)]))
    refine go_st (fun t k => Jvm.RoadKit.acmp (g := (mkF m 157 #[iv p0, iv p1, iv p2, iv p3, rv g_1, rv b2, rv b12, iv 0, iv c2, rv li30, rv b34, rv b45, rv b_66, .unset, .unset, .unset] [(.ref g_1), (.ref g_1)])) X72 hx rfl rfl rfl (pc0 := 157) (pc' := 160) (same := true) rfl (hb hby at_157) rfl (decide_eq_true rfl) (by decide) (by decide) k) ?_
    show Go _ _ _ _ (T72.setTop (mkF m 160 #[iv p0, iv p1, iv p2, iv p3, rv g_1, rv b2, rv b12, iv 0, iv c2, rv li30, rv b34, rv b45, rv b_66, .unset, .unset, .unset] []))
    refine go_st (fun t k => XS.aload X72.here hx rfl (hb hby at_160) rfl rfl k) ?_
    show Go _ _ _ _ (T72.setTop (mkF m 162 #[iv p0, iv p1, iv p2, iv p3, rv g_1, rv b2, rv b12, iv 0, iv c2, rv li30, rv b34, rv b45, rv b_66, .unset, .unset, .unset] [(.ref b_66)]))
    obtain ⟨cq73, kq73, q73a, q73b, q73c⟩ := isOf hZ30 e72 p66_1
    obtain ⟨_, _, ⟨T73, L73, kk73, nn73⟩, -, X73, ⟨Lc73, hQ73, lq73, yq73, zq73⟩, st73⟩ := X72.virtualBack hx (y := (⟨"com/example/tuplet/tuplet/Commands$Option", "label", "()Ljava/lang/String;"⟩ : MethodName)) (z := (⟨"com/example/tuplet/tuplet/Commands$Option", "label", "()Ljava/lang/String;"⟩ : MethodName)) hown30 (mvT hZ30 (w83 hw)) (mvT hZ30 (w84 hw)) (nf_same (y := (⟨"com/example/tuplet/tuplet/Commands$Option", "label", "()Ljava/lang/String;"⟩ : MethodName)) (y' := (⟨"com/example/tuplet/tuplet/Commands$Option", "name", "()Ljava/lang/String;"⟩ : MethodName)) (a0 := #[]) rfl (mvT hZ30 (w70 hw)) (notFace_of_selects (args := #[]) (mvT hZ30 (w71 hw)))) (mvT hZ30 (w86 hw)) (mvT hZ30 (w85 hw)) (by decide) (backOf (W := 0) (rm_get_label l Z a0 hw [] b_66 (.ref li30) h66 n0 (Nat.le_trans Z0 sz68) p66_4 rfl) hZ30 (w87 hw) (w43 hw) (by decide) (by decide)) q73a q73c (g := (mkF m 162 #[iv p0, iv p1, iv p2, iv p3, rv g_1, rv b2, rv b12, iv 0, iv c2, rv li30, rv b34, rv b45, rv b_66, .unset, .unset, .unset] [(.ref b_66)])) rfl (by rw [hml]; rfl) (Steps.refl _) (argsL := []) (rest := []) (lenOf pd_17 rfl) rfl (by show 2 * 0 + _ ≤ _; exact Nat.le_of_eq rfl) (hb hby at_162) (fun _ _ => ⟨rfl, e72, (by decide : 9 + 0 ≤ _), (by decide : 26 + 0 ≤ _)⟩)
    dsimp only [Pt.U, Pt.locs, Pt.cells, Pt.slots] at X73 lq73 yq73 zq73 st73 hQ73
    obtain rfl : kk73 = 9 := yq73
    obtain rfl : nn73 = 26 := zq73
    obtain ⟨h73, e73⟩ : ∃ z, T73.heap = z := ⟨_, rfl⟩
    rw [e73] at hQ73
    obtain ⟨rfl, N73q, he73⟩ := hQ73
    have N73 : Fr n0 L73 := by rw [lq73]; exact Fr.app N72 N73q
    rw [he73] at e73
    refine go_tr st73 ?_
    show Go _ _ _ _ (T73.setTop (mkF m 165 #[iv p0, iv p1, iv p2, iv p3, rv g_1, rv b2, rv b12, iv 0, iv c2, rv li30, rv b34, rv b45, rv b_66, .unset, .unset, .unset] [(.ref li30)]))
    refine go_st (fun t k => XS.aload X73.here hx rfl (hb hby at_165) rfl rfl k) ?_
    show Go _ _ _ _ (T73.setTop (mkF m 167 #[iv p0, iv p1, iv p2, iv p3, rv g_1, rv b2, rv b12, iv 0, iv c2, rv li30, rv b34, rv b45, rv b_66, .unset, .unset, .unset] [(.ref li30), (.ref li30)]))
    have f75 : Exa Z h66 li30 "java/lang/String" := ((((((Es30.ext E34).wr W37).wr W41).ext E45).keep K61).keep K66)
    obtain ⟨cq74, kq74, q74a, q74b, q74c⟩ := isOf hZ30 e73 f75
    obtain ⟨_, _, ⟨T74, L74, kk74, nn74⟩, -, X74, ⟨Lc74, hQ74, lq74, yq74, zq74⟩, st74⟩ := X73.virtualBack hx (y := (⟨"java/lang/String", "equals", "(Ljava/lang/Object;)Z"⟩ : MethodName)) (z := (⟨"java/lang/String", "equals", "(Ljava/lang/Object;)Z"⟩ : MethodName)) hown30 (mvT hZ30 (w73 hw)) (mvT hZ30 (w74 hw)) (notFace_of_selects (args := #[]) (mvT hZ30 (w76 hw))) (mvT hZ30 (w76 hw)) (mvT hZ30 (w75 hw)) (by decide) (backOf (W := 0) (rm_eqsame l Z a0 hw [] li30 h66 n0 (Nat.le_trans Z0 sz68) ) hZ30 (w77 hw) (w11 hw) (by decide) (by decide)) q74a q74c (g := (mkF m 167 #[iv p0, iv p1, iv p2, iv p3, rv g_1, rv b2, rv b12, iv 0, iv c2, rv li30, rv b34, rv b45, rv b_66, .unset, .unset, .unset] [(.ref li30), (.ref li30)])) rfl (by rw [hml]; rfl) (Steps.refl _) (argsL := [(.ref li30)]) (rest := []) (lenOf pd_21 rfl) rfl (by show 2 * 0 + _ ≤ _; exact Nat.le_of_eq rfl) (hb hby at_167) (fun _ _ => ⟨rfl, e73, (by decide : 9 + 0 ≤ _), (by decide : 26 + 0 ≤ _)⟩)
    dsimp only [Pt.U, Pt.locs, Pt.cells, Pt.slots] at X74 lq74 yq74 zq74 st74 hQ74
    obtain rfl : kk74 = 9 := yq74
    obtain rfl : nn74 = 26 := zq74
    obtain ⟨h74, e74⟩ : ∃ z, T74.heap = z := ⟨_, rfl⟩
    rw [e74] at hQ74
    obtain ⟨rfl, N74q, he74⟩ := hQ74
    have N74 : Fr n0 L74 := by rw [lq74]; exact Fr.app N73 N74q
    rw [he74] at e74
    refine go_tr st74 ?_
    show Go _ _ _ _ (T74.setTop (mkF m 170 #[iv p0, iv p1, iv p2, iv p3, rv g_1, rv b2, rv b12, iv 0, iv c2, rv li30, rv b34, rv b45, rv b_66, .unset, .unset, .unset] [(.int 1)]))
    refine go_st (fun t k => XS.ifNo X74.here hx rfl (hb hby at_170) rfl ((if0 _ _).trans (feq ((by decide) : ¬ ((1 : Int32) = (0 : Int32)))).1) k) ?_
    show Go _ _ _ _ (T74.setTop (mkF m 173 #[iv p0, iv p1, iv p2, iv p3, rv g_1, rv b2, rv b12, iv 0, iv c2, rv li30, rv b34, rv b45, rv b_66, .unset, .unset, .unset] []))
    refine go_st (fun t k => XS.aload X74.here hx rfl (hb hby at_173) rfl rfl k) ?_
    show Go _ _ _ _ (T74.setTop (mkF m 175 #[iv p0, iv p1, iv p2, iv p3, rv g_1, rv b2, rv b12, iv 0, iv c2, rv li30, rv b34, rv b45, rv b_66, .unset, .unset, .unset] [(.ref b_66)]))
    obtain ⟨cq76, kq76, q76a, q76b, q76c⟩ := isOf hZ30 e74 p66_1
    obtain ⟨_, _, ⟨T76, L76, kk76, nn76⟩, -, X76, ⟨Lc76, hQ76, lq76, yq76, zq76⟩, st76⟩ := X74.virtualBack hx (y := (⟨"com/example/tuplet/tuplet/Commands$Option", "help", "()Ljava/lang/String;"⟩ : MethodName)) (z := (⟨"com/example/tuplet/tuplet/Commands$Option", "help", "()Ljava/lang/String;"⟩ : MethodName)) hown30 (mvT hZ30 (w88 hw)) (mvT hZ30 (w89 hw)) (nf_same (y := (⟨"com/example/tuplet/tuplet/Commands$Option", "help", "()Ljava/lang/String;"⟩ : MethodName)) (y' := (⟨"com/example/tuplet/tuplet/Commands$Option", "name", "()Ljava/lang/String;"⟩ : MethodName)) (a0 := #[]) rfl (mvT hZ30 (w70 hw)) (notFace_of_selects (args := #[]) (mvT hZ30 (w71 hw)))) (mvT hZ30 (w91 hw)) (mvT hZ30 (w90 hw)) (by decide) (backOf (W := 0) (rm_get_help l Z a0 hw [] b_66 (.ref b45) h66 n0 (Nat.le_trans Z0 sz68) p66_5 rfl) hZ30 (w92 hw) (w43 hw) (by decide) (by decide)) q76a q76c (g := (mkF m 175 #[iv p0, iv p1, iv p2, iv p3, rv g_1, rv b2, rv b12, iv 0, iv c2, rv li30, rv b34, rv b45, rv b_66, .unset, .unset, .unset] [(.ref b_66)])) rfl (by rw [hml]; rfl) (Steps.refl _) (argsL := []) (rest := []) (lenOf pd_17 rfl) rfl (by show 2 * 0 + _ ≤ _; exact Nat.le_of_eq rfl) (hb hby at_175) (fun _ _ => ⟨rfl, e74, (by decide : 9 + 0 ≤ _), (by decide : 26 + 0 ≤ _)⟩)
    dsimp only [Pt.U, Pt.locs, Pt.cells, Pt.slots] at X76 lq76 yq76 zq76 st76 hQ76
    obtain rfl : kk76 = 9 := yq76
    obtain rfl : nn76 = 26 := zq76
    obtain ⟨h76, e76⟩ : ∃ z, T76.heap = z := ⟨_, rfl⟩
    rw [e76] at hQ76
    obtain ⟨rfl, N76q, he76⟩ := hQ76
    have N76 : Fr n0 L76 := by rw [lq76]; exact Fr.app N74 N76q
    rw [he76] at e76
    refine go_tr st76 ?_
    show Go _ _ _ _ (T76.setTop (mkF m 178 #[iv p0, iv p1, iv p2, iv p3, rv g_1, rv b2, rv b12, iv 0, iv c2, rv li30, rv b34, rv b45, rv b_66, .unset, .unset, .unset] [(.ref b45)]))
    refine go_st (fun t k => XS.aload X76.here hx rfl (hb hby at_178) rfl rfl k) ?_
    show Go _ _ _ _ (T76.setTop (mkF m 180 #[iv p0, iv p1, iv p2, iv p3, rv g_1, rv b2, rv b12, iv 0, iv c2, rv li30, rv b34, rv b45, rv b_66, .unset, .unset, .unset] [(.ref b45), (.ref b45)]))
    have f78 : Exa Z h66 b45 "java/lang/String" := (Es61.keep K66)
    obtain ⟨cq77, kq77, q77a, q77b, q77c⟩ := isOf hZ30 e76 f78
    obtain ⟨_, _, ⟨T77, L77, kk77, nn77⟩, -, X77, ⟨Lc77, hQ77, lq77, yq77, zq77⟩, st77⟩ := X76.virtualBack hx (y := (⟨"java/lang/String", "equals", "(Ljava/lang/Object;)Z"⟩ : MethodName)) (z := (⟨"java/lang/String", "equals", "(Ljava/lang/Object;)Z"⟩ : MethodName)) hown30 (mvT hZ30 (w73 hw)) (mvT hZ30 (w74 hw)) (notFace_of_selects (args := #[]) (mvT hZ30 (w76 hw))) (mvT hZ30 (w76 hw)) (mvT hZ30 (w75 hw)) (by decide) (backOf (W := 0) (rm_eqsame l Z a0 hw [] b45 h66 n0 (Nat.le_trans Z0 sz68) ) hZ30 (w77 hw) (w11 hw) (by decide) (by decide)) q77a q77c (g := (mkF m 180 #[iv p0, iv p1, iv p2, iv p3, rv g_1, rv b2, rv b12, iv 0, iv c2, rv li30, rv b34, rv b45, rv b_66, .unset, .unset, .unset] [(.ref b45), (.ref b45)])) rfl (by rw [hml]; rfl) (Steps.refl _) (argsL := [(.ref b45)]) (rest := []) (lenOf pd_21 rfl) rfl (by show 2 * 0 + _ ≤ _; exact Nat.le_of_eq rfl) (hb hby at_180) (fun _ _ => ⟨rfl, e76, (by decide : 9 + 0 ≤ _), (by decide : 26 + 0 ≤ _)⟩)
    dsimp only [Pt.U, Pt.locs, Pt.cells, Pt.slots] at X77 lq77 yq77 zq77 st77 hQ77
    obtain rfl : kk77 = 9 := yq77
    obtain rfl : nn77 = 26 := zq77
    obtain ⟨h77, e77⟩ : ∃ z, T77.heap = z := ⟨_, rfl⟩
    rw [e77] at hQ77
    obtain ⟨rfl, N77q, he77⟩ := hQ77
    have N77 : Fr n0 L77 := by rw [lq77]; exact Fr.app N76 N77q
    rw [he77] at e77
    refine go_tr st77 ?_
    show Go _ _ _ _ (T77.setTop (mkF m 183 #[iv p0, iv p1, iv p2, iv p3, rv g_1, rv b2, rv b12, iv 0, iv c2, rv li30, rv b34, rv b45, rv b_66, .unset, .unset, .unset] [(.int 1)]))
    refine go_st (fun t k => XS.ifNo X77.here hx rfl (hb hby at_183) rfl ((if0 _ _).trans (feq ((by decide) : ¬ ((1 : Int32) = (0 : Int32)))).1) k) ?_
    show Go _ _ _ _ (T77.setTop (mkF m 186 #[iv p0, iv p1, iv p2, iv p3, rv g_1, rv b2, rv b12, iv 0, iv c2, rv li30, rv b34, rv b45, rv b_66, .unset, .unset, .unset] []))
    refine go_st (fun t k => XS.aload X77.here hx rfl (hb hby at_186) rfl rfl k) ?_
    show Go _ _ _ _ (T77.setTop (mkF m 188 #[iv p0, iv p1, iv p2, iv p3, rv g_1, rv b2, rv b12, iv 0, iv c2, rv li30, rv b34, rv b45, rv b_66, .unset, .unset, .unset] [(.ref b_66)]))
    obtain ⟨cq79, kq79, q79a, q79b, q79c⟩ := isOf hZ30 e77 p66_1
    obtain ⟨_, _, ⟨T79, L79, kk79, nn79⟩, -, X79, ⟨Lc79, hQ79, lq79, yq79, zq79⟩, st79⟩ := X77.virtualBack hx (y := (⟨"com/example/tuplet/tuplet/Commands$Option", "required", "()Z"⟩ : MethodName)) (z := (⟨"com/example/tuplet/tuplet/Commands$Option", "required", "()Z"⟩ : MethodName)) hown30 (mvT hZ30 (w93 hw)) (mvT hZ30 (w94 hw)) (nf_same (y := (⟨"com/example/tuplet/tuplet/Commands$Option", "required", "()Z"⟩ : MethodName)) (y' := (⟨"com/example/tuplet/tuplet/Commands$Option", "name", "()Ljava/lang/String;"⟩ : MethodName)) (a0 := #[]) rfl (mvT hZ30 (w70 hw)) (notFace_of_selects (args := #[]) (mvT hZ30 (w71 hw)))) (mvT hZ30 (w96 hw)) (mvT hZ30 (w95 hw)) (by decide) (backOf (W := 0) (rm_get_required0 l Z a0 hw [] b_66 h66 n0 (Nat.le_trans Z0 sz68) p66_6) hZ30 (w97 hw) (w43 hw) (by decide) (by decide)) q79a q79c (g := (mkF m 188 #[iv p0, iv p1, iv p2, iv p3, rv g_1, rv b2, rv b12, iv 0, iv c2, rv li30, rv b34, rv b45, rv b_66, .unset, .unset, .unset] [(.ref b_66)])) rfl (by rw [hml]; rfl) (Steps.refl _) (argsL := []) (rest := []) (lenOf pd_2 rfl) rfl (by show 2 * 0 + _ ≤ _; exact Nat.le_of_eq rfl) (hb hby at_188) (fun _ _ => ⟨rfl, e77, (by decide : 9 + 0 ≤ _), (by decide : 26 + 0 ≤ _)⟩)
    dsimp only [Pt.U, Pt.locs, Pt.cells, Pt.slots] at X79 lq79 yq79 zq79 st79 hQ79
    obtain rfl : kk79 = 9 := yq79
    obtain rfl : nn79 = 26 := zq79
    obtain ⟨h79, e79⟩ : ∃ z, T79.heap = z := ⟨_, rfl⟩
    rw [e79] at hQ79
    obtain ⟨rfl, N79q, he79⟩ := hQ79
    have N79 : Fr n0 L79 := by rw [lq79]; exact Fr.app N77 N79q
    rw [he79] at e79
    refine go_tr st79 ?_
    show Go _ _ _ _ (T79.setTop (mkF m 191 #[iv p0, iv p1, iv p2, iv p3, rv g_1, rv b2, rv b12, iv 0, iv c2, rv li30, rv b34, rv b45, rv b_66, .unset, .unset, .unset] [(.int 0)]))
    refine go_st (fun t k => XS.ifNo X79.here hx rfl (hb hby at_191) rfl ((if0 _ _).trans (teq ((by decide) : (0 : Int32) = (0 : Int32))).2) k) ?_
    show Go _ _ _ _ (T79.setTop (mkF m 194 #[iv p0, iv p1, iv p2, iv p3, rv g_1, rv b2, rv b12, iv 0, iv c2, rv li30, rv b34, rv b45, rv b_66, .unset, .unset, .unset] []))
    refine go_st (fun t k => XS.aload X79.here hx rfl (hb hby at_194) rfl rfl k) ?_
    show Go _ _ _ _ (T79.setTop (mkF m 196 #[iv p0, iv p1, iv p2, iv p3, rv g_1, rv b2, rv b12, iv 0, iv c2, rv li30, rv b34, rv b45, rv b_66, .unset, .unset, .unset] [(.ref b_66)]))
    obtain ⟨cq80, kq80, q80a, q80b, q80c⟩ := isOf hZ30 e79 p66_1
    obtain ⟨_, _, ⟨T80, L80, kk80, nn80⟩, -, X80, ⟨Lc80, hQ80, lq80, yq80, zq80⟩, st80⟩ := X79.virtualBack hx (y := (⟨"com/example/tuplet/tuplet/Commands$Option", "byDefault", "()Ljava/lang/String;"⟩ : MethodName)) (z := (⟨"com/example/tuplet/tuplet/Commands$Option", "byDefault", "()Ljava/lang/String;"⟩ : MethodName)) hown30 (mvT hZ30 (w98 hw)) (mvT hZ30 (w99 hw)) (nf_same (y := (⟨"com/example/tuplet/tuplet/Commands$Option", "byDefault", "()Ljava/lang/String;"⟩ : MethodName)) (y' := (⟨"com/example/tuplet/tuplet/Commands$Option", "name", "()Ljava/lang/String;"⟩ : MethodName)) (a0 := #[]) rfl (mvT hZ30 (w70 hw)) (notFace_of_selects (args := #[]) (mvT hZ30 (w71 hw)))) (mvT hZ30 (w101 hw)) (mvT hZ30 (w100 hw)) (by decide) (backOf (W := 0) (rm_get_byDefault l Z a0 hw [] b_66 .null h66 n0 (Nat.le_trans Z0 sz68) p66_7 rfl) hZ30 (w102 hw) (w43 hw) (by decide) (by decide)) q80a q80c (g := (mkF m 196 #[iv p0, iv p1, iv p2, iv p3, rv g_1, rv b2, rv b12, iv 0, iv c2, rv li30, rv b34, rv b45, rv b_66, .unset, .unset, .unset] [(.ref b_66)])) rfl (by rw [hml]; rfl) (Steps.refl _) (argsL := []) (rest := []) (lenOf pd_17 rfl) rfl (by show 2 * 0 + _ ≤ _; exact Nat.le_of_eq rfl) (hb hby at_196) (fun _ _ => ⟨rfl, e79, (by decide : 9 + 0 ≤ _), (by decide : 26 + 0 ≤ _)⟩)
    dsimp only [Pt.U, Pt.locs, Pt.cells, Pt.slots] at X80 lq80 yq80 zq80 st80 hQ80
    obtain rfl : kk80 = 9 := yq80
    obtain rfl : nn80 = 26 := zq80
    obtain ⟨h80, e80⟩ : ∃ z, T80.heap = z := ⟨_, rfl⟩
    rw [e80] at hQ80
    obtain ⟨rfl, N80q, he80⟩ := hQ80
    have N80 : Fr n0 L80 := by rw [lq80]; exact Fr.app N79 N80q
    rw [he80] at e80
    refine go_tr st80 ?_
    show Go _ _ _ _ (T80.setTop (mkF m 199 #[iv p0, iv p1, iv p2, iv p3, rv g_1, rv b2, rv b12, iv 0, iv c2, rv li30, rv b34, rv b45, rv b_66, .unset, .unset, .unset] [.null]))
    refine go_st (fun t k => XS.ifnonnullNo X80.here hx rfl (hb hby at_199) rfl k) ?_
    show Go _ _ _ _ (T80.setTop (mkF m 202 #[iv p0, iv p1, iv p2, iv p3, rv g_1, rv b2, rv b12, iv 0, iv c2, rv li30, rv b34, rv b45, rv b_66, .unset, .unset, .unset] []))
    refine go_st (fun t k => XS.iconst X80.here hx rfl (hb hby at_202) k) ?_
    show Go _ _ _ _ (T80.setTop (mkF m 203 #[iv p0, iv p1, iv p2, iv p3, rv g_1, rv b2, rv b12, iv 0, iv c2, rv li30, rv b34, rv b45, rv b_66, .unset, .unset, .unset] [(.int 1)]))
    refine go_st (fun t k => XS.goto X80.here hx rfl (pc0 := 203) (pc' := 207) rfl (hb hby at_203) (by decide) (by decide) k) ?_
    show Go _ _ _ _ (T80.setTop (mkF m 207 #[iv p0, iv p1, iv p2, iv p3, rv g_1, rv b2, rv b12, iv 0, iv c2, rv li30, rv b34, rv b45, rv b_66, .unset, .unset, .unset] [(.int 1)]))
    refine go_st (fun t k => XS.istore X80.here hx rfl (hb hby at_207) rfl (l' := #[iv p0, iv p1, iv p2, iv p3, rv g_1, rv b2, rv b12, iv 0, iv c2, rv li30, rv b34, rv b45, rv b_66, iv 1, .unset, .unset]) rfl k) ?_
    show Go _ _ _ _ (T80.setTop (mkF m 209 #[iv p0, iv p1, iv p2, iv p3, rv g_1, rv b2, rv b12, iv 0, iv c2, rv li30, rv b34, rv b45, rv b_66, iv 1, .unset, .unset] []))
    refine go_st (fun t k => XS.aload X80.here hx rfl (hb hby at_209) rfl rfl k) ?_
    show Go _ _ _ _ (T80.setTop (mkF m 211 #[iv p0, iv p1, iv p2, iv p3, rv g_1, rv b2, rv b12, iv 0, iv c2, rv li30, rv b34, rv b45, rv b_66, iv 1, .unset, .unset] [(.ref b_66)]))
    have nq81 : li30 ≠ b34 := Nat.ne_of_lt (Nat.lt_of_lt_of_le (Nat.lt_of_lt_of_le Es30.lt (Nat.le_refl _)) (Nat.le_of_eq gq34.symm))
    have sz82 : h30.size ≤ h37.size := (Nat.le_trans E34.1 (Nat.le_of_eq W37.size.symm))
    have sz83 : h30.size ≤ h41.size := (Nat.le_trans sz82 (Nat.le_of_eq W41.size.symm))
    have nq84 : li30 ≠ b45 := Nat.ne_of_lt (Nat.lt_of_lt_of_le (Nat.lt_of_lt_of_le Es30.lt sz83) (Nat.le_of_eq gq45.symm))
    have f85 : Fld Z h66 li30 "java/lang/String" "value" "[B" (.ref t30) := ((((((Vs30.ext E34).other W37 (Or.inl nq81)).other W41 (Or.inl nq81)).ext E45).keep K61 (ninS nq84 nin0)).keep K66 nin0)
    have f86 : Fld Z h66 li30 "java/lang/String" "coder" "B" (.int 0) := ((((((Cs30.ext E34).other W37 (Or.inl nq81)).other W41 (Or.inl nq81)).ext E45).keep K61 (ninS nq84 nin0)).keep K66 nin0)
    have nq87 : t30 ≠ b34 := Nat.ne_of_lt (Nat.lt_of_lt_of_le (Nat.lt_of_lt_of_le As30.lt (Nat.le_refl _)) (Nat.le_of_eq gq34.symm))
    have nq88 : t30 ≠ b45 := Nat.ne_of_lt (Nat.lt_of_lt_of_le (Nat.lt_of_lt_of_le As30.lt sz83) (Nat.le_of_eq gq45.symm))
    have f89 : Arv Z h66 t30 kb30 .byte (0 : Int32) [] (.int 0) := ((((((f33.ext E34).other W37 nq87).other W41 nq87).ext E45).keep K61 (ninS nq88 nin0)).keep K66 nin0)
    have oe90 : Old Z n0 h61 := (Old.keep oe56 K61 (allS g_b45 all0))
    have oe91 : Old Z n0 h66 := (Old.keep oe90 K66 all0)
    obtain ⟨cq92, kq92, q92a, q92b, q92c⟩ := isOf hZ30 e80 p66_1
    obtain ⟨_, _, ⟨T92, L92, kk92, nn92⟩, -, X92, ⟨Lc92, hQ92, lq92, yq92, zq92⟩, st92⟩ := X80.virtualBack hx (y := (⟨"com/example/tuplet/tuplet/Commands$Option", "shown", "()Ljava/lang/String;"⟩ : MethodName)) (z := (⟨"com/example/tuplet/tuplet/Commands$Option", "shown", "()Ljava/lang/String;"⟩ : MethodName)) hown30 (mvT hZ30 (w103 hw)) (mvT hZ30 (w104 hw)) (nf_same (y := (⟨"com/example/tuplet/tuplet/Commands$Option", "shown", "()Ljava/lang/String;"⟩ : MethodName)) (y' := (⟨"com/example/tuplet/tuplet/Commands$Option", "name", "()Ljava/lang/String;"⟩ : MethodName)) (a0 := #[]) rfl (mvT hZ30 (w70 hw)) (notFace_of_selects (args := #[]) (mvT hZ30 (w71 hw)))) (mvT hZ30 (w106 hw)) (mvT hZ30 (w105 hw)) (by decide) (backOf (W := 0) (rm_shown0 l Z a0 hw [] b_66 b12 li30 t30 kb30 G1 h66 n0 (Nat.le_trans Z0 sz68) p66_1 p66_2 p66_4 f75 f85 f86 f89 CS CSn oe91) hZ30 (w107 hw) (w43 hw) (by decide) (by decide)) q92a q92c (g := (mkF m 211 #[iv p0, iv p1, iv p2, iv p3, rv g_1, rv b2, rv b12, iv 0, iv c2, rv li30, rv b34, rv b45, rv b_66, iv 1, .unset, .unset] [(.ref b_66)])) rfl (by rw [hml]; rfl) (Steps.refl _) (argsL := []) (rest := []) (lenOf pd_17 rfl) rfl (by show 2 * 0 + _ ≤ _; exact Nat.le_of_eq rfl) (hb hby at_211) (fun _ _ => ⟨rfl, e80, (by decide : 9 + 0 ≤ _), (by decide : 26 + 0 ≤ _)⟩)
    dsimp only [Pt.U, Pt.locs, Pt.cells, Pt.slots] at X92 lq92 yq92 zq92 st92 hQ92
    obtain rfl : kk92 = 9 := yq92
    obtain rfl : nn92 = 26 := zq92
    obtain ⟨h92, e92⟩ : ∃ z, T92.heap = z := ⟨_, rfl⟩
    rw [e92] at hQ92
    obtain ⟨rfl, N92q, he92⟩ := hQ92
    have N92 : Fr n0 L92 := by rw [lq92]; exact Fr.app N80 N92q
    rw [he92] at e92
    refine go_tr st92 ?_
    show Go _ _ _ _ (T92.setTop (mkF m 214 #[iv p0, iv p1, iv p2, iv p3, rv g_1, rv b2, rv b12, iv 0, iv c2, rv li30, rv b34, rv b45, rv b_66, iv 1, .unset, .unset] [(.ref b12)]))
    refine go_st (fun t k => XS.astore X92.here hx rfl (hb hby at_214) rfl rfl (l' := #[iv p0, iv p1, iv p2, iv p3, rv g_1, rv b2, rv b12, iv 0, iv c2, rv li30, rv b34, rv b45, rv b_66, iv 1, rv b12, .unset]) rfl k) ?_
    show Go _ _ _ _ (T92.setTop (mkF m 216 #[iv p0, iv p1, iv p2, iv p3, rv g_1, rv b2, rv b12, iv 0, iv c2, rv li30, rv b34, rv b45, rv b_66, iv 1, rv b12, .unset] []))
    refine go_st (fun t k => XS.iload X92.here hx rfl (hb hby at_216) rfl k) ?_
    show Go _ _ _ _ (T92.setTop (mkF m 218 #[iv p0, iv p1, iv p2, iv p3, rv g_1, rv b2, rv b12, iv 0, iv c2, rv li30, rv b34, rv b45, rv b_66, iv 1, rv b12, .unset] [(.int 0)]))
    refine go_st (fun t k => XS.ifNo X92.here hx rfl (hb hby at_218) rfl ((if0 _ _).trans (teq ((by decide) : (0 : Int32) = (0 : Int32))).2) k) ?_
    show Go _ _ _ _ (T92.setTop (mkF m 221 #[iv p0, iv p1, iv p2, iv p3, rv g_1, rv b2, rv b12, iv 0, iv c2, rv li30, rv b34, rv b45, rv b_66, iv 1, rv b12, .unset] []))
    refine go_st (fun t k => XS.aload X92.here hx rfl (hb hby at_221) rfl rfl k) ?_
    show Go _ _ _ _ (T92.setTop (mkF m 223 #[iv p0, iv p1, iv p2, iv p3, rv g_1, rv b2, rv b12, iv 0, iv c2, rv li30, rv b34, rv b45, rv b_66, iv 1, rv b12, .unset] [(.ref b12)]))
    refine go_st (fun t k => XS.aload X92.here hx rfl (hb hby at_223) rfl rfl k) ?_
    show Go _ _ _ _ (T92.setTop (mkF m 225 #[iv p0, iv p1, iv p2, iv p3, rv g_1, rv b2, rv b12, iv 0, iv c2, rv li30, rv b34, rv b45, rv b_66, iv 1, rv b12, .unset] [(.ref b12), (.ref b12)]))
    obtain ⟨cq93, kq93, q93a, q93b, q93c⟩ := isOf hZ30 e92 f71
    obtain ⟨_, _, ⟨T93, L93, kk93, nn93⟩, -, X93, ⟨Lc93, hQ93, lq93, yq93, zq93⟩, st93⟩ := X92.virtualBack hx (y := (⟨"java/lang/String", "equals", "(Ljava/lang/Object;)Z"⟩ : MethodName)) (z := (⟨"java/lang/String", "equals", "(Ljava/lang/Object;)Z"⟩ : MethodName)) hown30 (mvT hZ30 (w73 hw)) (mvT hZ30 (w74 hw)) (notFace_of_selects (args := #[]) (mvT hZ30 (w76 hw))) (mvT hZ30 (w76 hw)) (mvT hZ30 (w75 hw)) (by decide) (backOf (W := 0) (rm_eqsame l Z a0 hw [] b12 h66 n0 (Nat.le_trans Z0 sz68) ) hZ30 (w77 hw) (w11 hw) (by decide) (by decide)) q93a q93c (g := (mkF m 225 #[iv p0, iv p1, iv p2, iv p3, rv g_1, rv b2, rv b12, iv 0, iv c2, rv li30, rv b34, rv b45, rv b_66, iv 1, rv b12, .unset] [(.ref b12), (.ref b12)])) rfl (by rw [hml]; rfl) (Steps.refl _) (argsL := [(.ref b12)]) (rest := []) (lenOf pd_21 rfl) rfl (by show 2 * 0 + _ ≤ _; exact Nat.le_of_eq rfl) (hb hby at_225) (fun _ _ => ⟨rfl, e92, (by decide : 9 + 0 ≤ _), (by decide : 26 + 0 ≤ _)⟩)
    dsimp only [Pt.U, Pt.locs, Pt.cells, Pt.slots] at X93 lq93 yq93 zq93 st93 hQ93
    obtain rfl : kk93 = 9 := yq93
    obtain rfl : nn93 = 26 := zq93
    obtain ⟨h93, e93⟩ : ∃ z, T93.heap = z := ⟨_, rfl⟩
    rw [e93] at hQ93
    obtain ⟨rfl, N93q, he93⟩ := hQ93
    have N93 : Fr n0 L93 := by rw [lq93]; exact Fr.app N92 N93q
    rw [he93] at e93
    refine go_tr st93 ?_
    show Go _ _ _ _ (T93.setTop (mkF m 228 #[iv p0, iv p1, iv p2, iv p3, rv g_1, rv b2, rv b12, iv 0, iv c2, rv li30, rv b34, rv b45, rv b_66, iv 1, rv b12, .unset] [(.int 1)]))
    refine go_st (fun t k => XS.istore X93.here hx rfl (hb hby at_228) rfl (l' := #[iv p0, iv p1, iv p2, iv p3, rv g_1, rv b2, rv b12, iv 0, iv c2, rv li30, rv b34, rv b45, rv b_66, iv 1, rv b12, iv 1]) rfl k) ?_
    show Go _ _ _ _ (T93.setTop (mkF m 230 #[iv p0, iv p1, iv p2, iv p3, rv g_1, rv b2, rv b12, iv 0, iv c2, rv li30, rv b34, rv b45, rv b_66, iv 1, rv b12, iv 1] []))
    refine go_st (fun t k => XS.goto X93.here hx rfl (pc0 := 230) (pc' := 297) rfl (hb hby at_230) (by decide) (by decide) k) ?_
    show Go _ _ _ _ (T93.setTop (mkF m 297 #[iv p0, iv p1, iv p2, iv p3, rv g_1, rv b2, rv b12, iv 0, iv c2, rv li30, rv b34, rv b45, rv b_66, iv 1, rv b12, iv 1] []))
    refine go_st (fun t k => XS.iload X93.here hx rfl (hb hby at_297) rfl k) ?_
    show Go _ _ _ _ (T93.setTop (mkF m 299 #[iv p0, iv p1, iv p2, iv p3, rv g_1, rv b2, rv b12, iv 0, iv c2, rv li30, rv b34, rv b45, rv b_66, iv 1, rv b12, iv 1] [(.int 1)]))
    refine go_st (fun t k => XS.ifNo X93.here hx rfl (hb hby at_299) rfl ((if0 _ _).trans (feq ((by decide) : ¬ ((1 : Int32) = (0 : Int32)))).1) k) ?_
    show Go _ _ _ _ (T93.setTop (mkF m 302 #[iv p0, iv p1, iv p2, iv p3, rv g_1, rv b2, rv b12, iv 0, iv c2, rv li30, rv b34, rv b45, rv b_66, iv 1, rv b12, iv 1] []))
    refine go_st (fun t k => XS.iload X93.here hx rfl (hb hby at_302) rfl k) ?_
    show Go _ _ _ _ (T93.setTop (mkF m 304 #[iv p0, iv p1, iv p2, iv p3, rv g_1, rv b2, rv b12, iv 0, iv c2, rv li30, rv b34, rv b45, rv b_66, iv 1, rv b12, iv 1] [(.int 1)]))
    refine go_st (fun t k => XS.ifNo X93.here hx rfl (hb hby at_304) rfl ((if0 _ _).trans (feq ((by decide) : ¬ ((1 : Int32) = (0 : Int32)))).1) k) ?_
    show Go _ _ _ _ (T93.setTop (mkF m 307 #[iv p0, iv p1, iv p2, iv p3, rv g_1, rv b2, rv b12, iv 0, iv c2, rv li30, rv b34, rv b45, rv b_66, iv 1, rv b12, iv 1] []))
    refine go_st (fun t k => XS.iconst X93.here hx rfl (hb hby at_307) k) ?_
    show Go _ _ _ _ (T93.setTop (mkF m 308 #[iv p0, iv p1, iv p2, iv p3, rv g_1, rv b2, rv b12, iv 0, iv c2, rv li30, rv b34, rv b45, rv b_66, iv 1, rv b12, iv 1] [(.int 1)]))
    refine go_st (fun t k => XS.goto X93.here hx rfl (pc0 := 308) (pc' := 312) rfl (hb hby at_308) (by decide) (by decide) k) ?_
    show Go _ _ _ _ (T93.setTop (mkF m 312 #[iv p0, iv p1, iv p2, iv p3, rv g_1, rv b2, rv b12, iv 0, iv c2, rv li30, rv b34, rv b45, rv b_66, iv 1, rv b12, iv 1] [(.int 1)]))
    have ke94 : Keep h0 h2 [] := (Keep.ext (Keep.refl h0 []) E2)
    have ke95 : Keep h0 h5 [] := (Keep.wr ke94 W5 (Or.inr (Nat.le_of_eq gq2.symm)))
    have ke96 : Keep h0 h8 [] := (Keep.wr ke95 W8 (Or.inr (Nat.le_of_eq gq2.symm)))
    have ke97 : Keep h0 h12 [] := (Keep.ext ke96 E12)
    have ke98 : Keep h0 h25 [] := (Keep.trans ke97 K25 (allS (Or.inr (Nat.le_trans sz23 (Nat.le_of_eq gq12.symm))) all0))
    have ke99 : Keep h0 h30 [] := (Keep.ext ke98 E30)
    have ke100 : Keep h0 h34 [] := (Keep.ext ke99 E34)
    have ke101 : Keep h0 h37 [] := (Keep.wr ke100 W37 (Or.inr (Nat.le_trans sz38 (Nat.le_of_eq gq34.symm))))
    have ke102 : Keep h0 h41 [] := (Keep.wr ke101 W41 (Or.inr (Nat.le_trans sz38 (Nat.le_of_eq gq34.symm))))
    have ke103 : Keep h0 h45 [] := (Keep.ext ke102 E45)
    have ke104 : Keep h0 h61 [] := (Keep.trans ke103 K61 (allS (Or.inr (Nat.le_trans sz59 (Nat.le_of_eq gq45.symm))) all0))
    have ke105 : Keep h0 h66 [] := (Keep.trans ke104 K66 all0)
    have sz106 : h30.size ≤ h45.size := (Nat.le_trans sz83 E45.1)
    have sz107 : h30.size ≤ h61.size := (Nat.le_trans sz106 K61.1)
    have sz108 : h30.size ≤ h66.size := (Nat.le_trans sz107 K66.1)
    obtain ⟨fs, hr, hrun, hended, hR⟩ := X93.leaveW hS30 (by rw [e93]; exact (Nat.le_trans hk30 sz108)) (v := some (.int 1)) (fun h => by rw [Bd.returns] at h; cases h)
    refine ⟨_, _, ?_, hrun, hended, _, _, rfl, ?_, ?_, hR.1, hR.2.1, hR.2.2.1, hR.2.2.2.mono (by decide) (by decide)⟩
    · exact retN X93 hx (t := .boolean) Bd.returns (by simp) (hb hby at_312) hr
    · show Q_law _ _ _ _ _ _ _ _ _ _ _ _ _ _ _ T93.heap _
      rw [e93]
      exact ⟨rfl, N93, ke105⟩
    · show CHr Z consts_1 s.vm s.heap T93.vm T93.heap
      rw [hh, e93]
      exact CHr.trans C67 (CHv.at X93 hZ30 (hEL hw) C67.1)
  · skip
    refine go_st (fun t k => XS.ifNo X25.here hx rfl (hb hby at_48) rfl ((if0 _ _).trans (feq (hc29 : ¬ ((p2 &&& (1 : Int32)) = (0 : Int32)))).1) k) ?_
    show Go _ _ _ _ (T25.setTop (mkF m 51 #[iv p0, iv p1, iv p2, iv p3, rv g_1, rv b2, rv b12, .unset, .unset, .unset, .unset, .unset, .unset, .unset, .unset, .unset] []))
    refine go_st (fun t k => XS.iconst X25.here hx rfl (hb hby at_51) k) ?_
    show Go _ _ _ _ (T25.setTop (mkF m 52 #[iv p0, iv p1, iv p2, iv p3, rv g_1, rv b2, rv b12, .unset, .unset, .unset, .unset, .unset, .unset, .unset, .unset, .unset] [(.int 1)]))
    refine go_st (fun t k => XS.goto X25.here hx rfl (pc0 := 52) (pc' := 56) rfl (hb hby at_52) (by decide) (by decide) k) ?_
    show Go _ _ _ _ (T25.setTop (mkF m 56 #[iv p0, iv p1, iv p2, iv p3, rv g_1, rv b2, rv b12, .unset, .unset, .unset, .unset, .unset, .unset, .unset, .unset, .unset] [(.int 1)]))
    refine go_st (fun t k => XS.istore X25.here hx rfl (hb hby at_56) rfl (l' := #[iv p0, iv p1, iv p2, iv p3, rv g_1, rv b2, rv b12, iv 1, .unset, .unset, .unset, .unset, .unset, .unset, .unset, .unset]) rfl k) ?_
    show Go _ _ _ _ (T25.setTop (mkF m 58 #[iv p0, iv p1, iv p2, iv p3, rv g_1, rv b2, rv b12, iv 1, .unset, .unset, .unset, .unset, .unset, .unset, .unset, .unset] []))
    refine go_st (fun t k => XS.iloadN X25.here hx rfl (hb hby at_58) rfl k) ?_
    show Go _ _ _ _ (T25.setTop (mkF m 59 #[iv p0, iv p1, iv p2, iv p3, rv g_1, rv b2, rv b12, iv 1, .unset, .unset, .unset, .unset, .unset, .unset, .unset, .unset] [(.int p2)]))
    refine go_st (fun t k => XS.iconst X25.here hx rfl (hb hby at_59) k) ?_
    show Go _ _ _ _ (T25.setTop (mkF m 60 #[iv p0, iv p1, iv p2, iv p3, rv g_1, rv b2, rv b12, iv 1, .unset, .unset, .unset, .unset, .unset, .unset, .unset, .unset] [(.int 1), (.int p2)]))
    refine go_st (fun t k => XS.iushr X25.here hx rfl (hb hby at_60) rfl k) ?_
    show Go _ _ _ _ (T25.setTop (mkF m 61 #[iv p0, iv p1, iv p2, iv p3, rv g_1, rv b2, rv b12, iv 1, .unset, .unset, .unset, .unset, .unset, .unset, .unset, .unset] [(.int ((p2).toUInt32 >>> ((1 : Int32) &&& 31).toUInt32).toInt32)]))
    refine go_st (fun t k => XS.sipush X25.here hx rfl (hb hby at_61) k) ?_
    show Go _ _ _ _ (T25.setTop (mkF m 64 #[iv p0, iv p1, iv p2, iv p3, rv g_1, rv b2, rv b12, iv 1, .unset, .unset, .unset, .unset, .unset, .unset, .unset, .unset] [(.int 255), (.int ((p2).toUInt32 >>> ((1 : Int32) &&& 31).toUInt32).toInt32)]))
    refine go_st (fun t k => XS.iand X25.here hx rfl (hb hby at_64) rfl k) ?_
    show Go _ _ _ _ (T25.setTop (mkF m 65 #[iv p0, iv p1, iv p2, iv p3, rv g_1, rv b2, rv b12, iv 1, .unset, .unset, .unset, .unset, .unset, .unset, .unset, .unset] [(.int (((p2).toUInt32 >>> ((1 : Int32) &&& 31).toUInt32).toInt32 &&& (255 : Int32)))]))
    refine go_st (fun t k => XS.i2c X25.here hx rfl (hb hby at_65) rfl k) ?_
    show Go _ _ _ _ (T25.setTop (mkF m 66 #[iv p0, iv p1, iv p2, iv p3, rv g_1, rv b2, rv b12, iv 1, .unset, .unset, .unset, .unset, .unset, .unset, .unset, .unset] [(.int (((((p2).toUInt32 >>> ((1 : Int32) &&& 31).toUInt32).toInt32 &&& (255 : Int32))).toUInt32.toUInt16.toUInt32.toInt32))]))
    refine go_st (fun t k => XS.istore X25.here hx rfl (hb hby at_66) rfl (l' := #[iv p0, iv p1, iv p2, iv p3, rv g_1, rv b2, rv b12, iv 1, iv (((((p2).toUInt32 >>> ((1 : Int32) &&& 31).toUInt32).toInt32 &&& (255 : Int32))).toUInt32.toUInt16.toUInt32.toInt32), .unset, .unset, .unset, .unset, .unset, .unset, .unset]) rfl k) ?_
    show Go _ _ _ _ (T25.setTop (mkF m 68 #[iv p0, iv p1, iv p2, iv p3, rv g_1, rv b2, rv b12, iv 1, iv (((((p2).toUInt32 >>> ((1 : Int32) &&& 31).toUInt32).toInt32 &&& (255 : Int32))).toUInt32.toUInt16.toUInt32.toInt32), .unset, .unset, .unset, .unset, .unset, .unset, .unset] []))
    obtain ⟨c2, h_c2⟩ : ∃ z, z = (((((p2).toUInt32 >>> ((1 : Int32) &&& 31).toUInt32).toInt32 &&& (255 : Int32))).toUInt32.toUInt16.toUInt32.toInt32) := ⟨_, rfl⟩
    rw [← h_c2]
    show Go _ _ _ _ (T25.setTop (mkF m 68 #[iv p0, iv p1, iv p2, iv p3, rv g_1, rv b2, rv b12, iv 1, iv c2, .unset, .unset, .unset, .unset, .unset, .unset, .unset] []))
    have hc2 : ¬ c2 < 0 ∧ ¬ (255 : Int32) < c2 := by rw [h_c2]; exact and255_c _
    refine go_st (fun t k => XS.iload X25.here hx rfl (hb hby at_68) rfl k) ?_
    show Go _ _ _ _ (T25.setTop (mkF m 70 #[iv p0, iv p1, iv p2, iv p3, rv g_1, rv b2, rv b12, iv 1, iv c2, .unset, .unset, .unset, .unset, .unset, .unset, .unset] [(.int 1)]))
    refine go_st (fun t k => XS.ifNo X25.here hx rfl (hb hby at_70) rfl ((if0 _ _).trans (feq ((by decide) : ¬ ((1 : Int32) = (0 : Int32)))).1) k) ?_
    show Go _ _ _ _ (T25.setTop (mkF m 73 #[iv p0, iv p1, iv p2, iv p3, rv g_1, rv b2, rv b12, iv 1, iv c2, .unset, .unset, .unset, .unset, .unset, .unset, .unset] []))
    refine go_st (fun t k => XS.iload X25.here hx rfl (hb hby at_73) rfl k) ?_
    show Go _ _ _ _ (T25.setTop (mkF m 75 #[iv p0, iv p1, iv p2, iv p3, rv g_1, rv b2, rv b12, iv 1, iv c2, .unset, .unset, .unset, .unset, .unset, .unset, .unset] [(.int c2)]))
    have oe109 : Old Z n0 h25 := (Old.keep oe21 K25 (allS g_b12 all0))
    have sz110 : h0.size ≤ h25.size := (Nat.le_trans sz24 K25.1)
    obtain ⟨_, _, ⟨T111, L111, kk111, nn111⟩, -, X111, ⟨Lc111, hQ111, lq111, yq111, zq111⟩, st111⟩ := Jvm.LawKit.callS X25 hx (y := (⟨"java/lang/String", "valueOf", "(C)Ljava/lang/String;"⟩ : MethodName)) hown (mvT hZ (w117 hw)) (mvT hZ (w118 hw)) (mvT hZ (w11 hw)) (mvT hZ (w119 hw)) (by decide) (backOf (W := 0) (rm_vof l Z a0 hw [] c2 G1 h25 n0 (Nat.le_trans Z0 sz110) hc2.2 CS CSn oe109) hZ (w119 hw) (w11 hw) (by decide) (by decide)) (g := (mkF m 75 #[iv p0, iv p1, iv p2, iv p3, rv g_1, rv b2, rv b12, iv 1, iv c2, .unset, .unset, .unset, .unset, .unset, .unset, .unset] [(.int c2)])) rfl (by rw [hml]; rfl) (argsL := [(.int c2)]) (rest := []) (lenOf pd_26 rfl) rfl (by show 2 * 0 + _ ≤ _; exact Nat.le_of_eq rfl) (hb hby at_75) (fun _ _ => ⟨rfl, e25, (by decide : 3 + 2 ≤ _), (by decide : 8 + 5 ≤ _)⟩)
    dsimp only [Pt.U, Pt.locs, Pt.cells, Pt.slots] at X111 lq111 yq111 zq111 st111 hQ111
    obtain rfl : kk111 = 5 := yq111
    obtain rfl : nn111 = 13 := zq111
    obtain ⟨h111, e111⟩ : ∃ z, T111.heap = z := ⟨_, rfl⟩
    rw [e111] at hQ111
    obtain ⟨sa_111, ta_111, kt_111, rfl, N111q, K111, gf111_0, lf111_0, gf111_1, lf111_1, p111_2, p111_3, p111_4, p111_5⟩ := hQ111
    have N111 : Fr n0 L111 := by rw [lq111]; exact Fr.app N25 N111q
    have C112 : CHr Z consts_1 s.vm h0 s.vm h111 := CHr.trans C26 (CHr.keep K111 sf0 C26.1)
    refine go_st st111 ?_
    show Go _ _ _ _ (T111.setTop (mkF m 78 #[iv p0, iv p1, iv p2, iv p3, rv g_1, rv b2, rv b12, iv 1, iv c2, .unset, .unset, .unset, .unset, .unset, .unset, .unset] [(.ref sa_111)]))
    have sf113 : Safe Z consts_1 s.vm h111 sa_111 := Safe.keep K111 sf0 C26.1 (Safe.new lf111_0)
    have sf114 : Safe Z consts_1 s.vm h111 ta_111 := Safe.keep K111 sf0 C26.1 (Safe.new lf111_1)
    refine go_st (fun t k => XS.goto X111.here hx rfl (pc0 := 78) (pc' := 83) rfl (hb hby at_78) (by decide) (by decide) k) ?_
    show Go _ _ _ _ (T111.setTop (mkF m 83 #[iv p0, iv p1, iv p2, iv p3, rv g_1, rv b2, rv b12, iv 1, iv c2, .unset, .unset, .unset, .unset, .unset, .unset, .unset] [(.ref sa_111)]))
    refine go_st (fun t k => XS.astore X111.here hx rfl (hb hby at_83) rfl rfl (l' := #[iv p0, iv p1, iv p2, iv p3, rv g_1, rv b2, rv b12, iv 1, iv c2, rv sa_111, .unset, .unset, .unset, .unset, .unset, .unset]) rfl k) ?_
    show Go _ _ _ _ (T111.setTop (mkF m 85 #[iv p0, iv p1, iv p2, iv p3, rv g_1, rv b2, rv b12, iv 1, iv c2, rv sa_111, .unset, .unset, .unset, .unset, .unset, .unset] []))
    refine go_st (fun t k => XS.iconst X111.here hx rfl (hb hby at_85) k) ?_
    show Go _ _ _ _ (T111.setTop (mkF m 86 #[iv p0, iv p1, iv p2, iv p3, rv g_1, rv b2, rv b12, iv 1, iv c2, rv sa_111, .unset, .unset, .unset, .unset, .unset, .unset] [(.int 2)]))
    obtain ⟨T115, h115, kc115, X115, e115, E115, A115, st115⟩ := newP X111 hx hZ (aty := .char) (w8 hw) e111 (g := (mkF m 86 #[iv p0, iv p1, iv p2, iv p3, rv g_1, rv b2, rv b12, iv 1, iv c2, rv sa_111, .unset, .unset, .unset, .unset, .unset, .unset] [(.int 2)])) rfl (hb hby at_86) rfl (by decide) (cap := 2) (by decide) (by decide) (by decide) (by decide)
    obtain ⟨b115, gq115⟩ : ∃ z, z = h111.size := ⟨_, rfl⟩
    rw [← gq115] at A115 st115
    have C116 : CHr Z consts_1 s.vm h0 s.vm h115 := CHr.trans C112 (CHr.ext E115 C112.1)
    have f117 : Arv Z h115 b115 kc115 .char (2 : Int32) [(.int 0), (.int 0)] (.int 0) := (Arv.new A115 (by decide)).pad (pad_rep [] (.int 0) 2)
    refine go_st (fun t k => st115 t k) ?_
    show Go _ _ _ _ (T115.setTop (mkF m 88 #[iv p0, iv p1, iv p2, iv p3, rv g_1, rv b2, rv b12, iv 1, iv c2, rv sa_111, .unset, .unset, .unset, .unset, .unset, .unset] [(.ref b115)]))
    refine go_st (fun t k => XS.astore X115.here hx rfl (hb hby at_88) rfl rfl (l' := #[iv p0, iv p1, iv p2, iv p3, rv g_1, rv b2, rv b12, iv 1, iv c2, rv sa_111, rv b115, .unset, .unset, .unset, .unset, .unset]) rfl k) ?_
    show Go _ _ _ _ (T115.setTop (mkF m 90 #[iv p0, iv p1, iv p2, iv p3, rv g_1, rv b2, rv b12, iv 1, iv c2, rv sa_111, rv b115, .unset, .unset, .unset, .unset, .unset] []))
    refine go_st (fun t k => XS.aload X115.here hx rfl (hb hby at_90) rfl rfl k) ?_
    show Go _ _ _ _ (T115.setTop (mkF m 92 #[iv p0, iv p1, iv p2, iv p3, rv g_1, rv b2, rv b12, iv 1, iv c2, rv sa_111, rv b115, .unset, .unset, .unset, .unset, .unset] [(.ref b115)]))
    refine go_st (fun t k => XS.iconst X115.here hx rfl (hb hby at_92) k) ?_
    show Go _ _ _ _ (T115.setTop (mkF m 93 #[iv p0, iv p1, iv p2, iv p3, rv g_1, rv b2, rv b12, iv 1, iv c2, rv sa_111, rv b115, .unset, .unset, .unset, .unset, .unset] [(.int 0), (.ref b115)]))
    refine go_st (fun t k => XS.iloadN X115.here hx rfl (hb hby at_93) rfl k) ?_
    show Go _ _ _ _ (T115.setTop (mkF m 94 #[iv p0, iv p1, iv p2, iv p3, rv g_1, rv b2, rv b12, iv 1, iv c2, rv sa_111, rv b115, .unset, .unset, .unset, .unset, .unset] [(.int p3), (.int 0), (.ref b115)]))
    refine go_st (fun t k => XS.sipush X115.here hx rfl (hb hby at_94) k) ?_
    show Go _ _ _ _ (T115.setTop (mkF m 97 #[iv p0, iv p1, iv p2, iv p3, rv g_1, rv b2, rv b12, iv 1, iv c2, rv sa_111, rv b115, .unset, .unset, .unset, .unset, .unset] [(.int 255), (.int p3), (.int 0), (.ref b115)]))
    refine go_st (fun t k => XS.iand X115.here hx rfl (hb hby at_97) rfl k) ?_
    show Go _ _ _ _ (T115.setTop (mkF m 98 #[iv p0, iv p1, iv p2, iv p3, rv g_1, rv b2, rv b12, iv 1, iv c2, rv sa_111, rv b115, .unset, .unset, .unset, .unset, .unset] [(.int (p3 &&& (255 : Int32))), (.int 0), (.ref b115)]))
    refine go_st (fun t k => XS.i2c X115.here hx rfl (hb hby at_98) rfl k) ?_
    show Go _ _ _ _ (T115.setTop (mkF m 99 #[iv p0, iv p1, iv p2, iv p3, rv g_1, rv b2, rv b12, iv 1, iv c2, rv sa_111, rv b115, .unset, .unset, .unset, .unset, .unset] [(.int (((p3 &&& (255 : Int32))).toUInt32.toUInt16.toUInt32.toInt32)), (.int 0), (.ref b115)]))
    obtain ⟨c3, h_c3⟩ : ∃ z, z = (((p3 &&& (255 : Int32))).toUInt32.toUInt16.toUInt32.toInt32) := ⟨_, rfl⟩
    rw [← h_c3]
    show Go _ _ _ _ (T115.setTop (mkF m 99 #[iv p0, iv p1, iv p2, iv p3, rv g_1, rv b2, rv b12, iv 1, iv c2, rv sa_111, rv b115, .unset, .unset, .unset, .unset, .unset] [(.int c3), (.int 0), (.ref b115)]))
    have hc3 : ¬ c3 < 0 ∧ ¬ (255 : Int32) < c3 := by rw [h_c3]; exact and255_c _
    obtain ⟨zc118, zA118, zq118, zS118, zN118, zH118, zG118⟩ := id f117
    have hin118 : ¬ ((0 : Int32) < 0 ∨ zc118.slots.size ≤ ((0 : Int32)).toNatClampNeg) := inb_of zS118 ⟨by decide, by decide⟩
    obtain ⟨T118, h118, X118, e118, W118, st118⟩ := stC X115 hx hZ e115 zA118 (j := (0 : Int32)) hin118 (g := (mkF m 99 #[iv p0, iv p1, iv p2, iv p3, rv g_1, rv b2, rv b12, iv 1, iv c2, rv sa_111, rv b115, .unset, .unset, .unset, .unset, .unset] [(.int c3), (.int 0), (.ref b115)])) rfl rfl (hb hby at_99)
    have sz119 : h0.size ≤ h111.size := (Nat.le_trans sz110 K111.1)
    have g_b115 : n0 ≤ b115 := Nat.le_trans (Nat.le_trans Z0 sz119) (Nat.le_of_eq gq115.symm)
    have N118 := Fr.snoc X118 N111 g_b115
    have C120 : CHr Z consts_1 s.vm h0 s.vm h118 := CHr.trans C116 (CHr.wr W118 (Safe.arv hZ.alike f117 (by decide)) C116.1)
    have f121 : Arv Z h118 b115 kc115 .char (2 : Int32) [(.int (nar .char c3)), (.int 0)] (.int 0) := Arv.set zA118 zq118 zS118 zN118 zH118 zG118 (fits_nar_char _) W118 0 rfl (Nat.le_of_ble_eq_true rfl)
    refine go_st (fun t k => st118 t k) ?_
    show Go _ _ _ _ (T118.setTop (mkF m 100 #[iv p0, iv p1, iv p2, iv p3, rv g_1, rv b2, rv b12, iv 1, iv c2, rv sa_111, rv b115, .unset, .unset, .unset, .unset, .unset] []))
    refine go_st (fun t k => XS.aload X118.here hx rfl (hb hby at_100) rfl rfl k) ?_
    show Go _ _ _ _ (T118.setTop (mkF m 102 #[iv p0, iv p1, iv p2, iv p3, rv g_1, rv b2, rv b12, iv 1, iv c2, rv sa_111, rv b115, .unset, .unset, .unset, .unset, .unset] [(.ref b115)]))
    refine go_st (fun t k => XS.iconst X118.here hx rfl (hb hby at_102) k) ?_
    show Go _ _ _ _ (T118.setTop (mkF m 103 #[iv p0, iv p1, iv p2, iv p3, rv g_1, rv b2, rv b12, iv 1, iv c2, rv sa_111, rv b115, .unset, .unset, .unset, .unset, .unset] [(.int 1), (.ref b115)]))
    refine go_st (fun t k => XS.iloadN X118.here hx rfl (hb hby at_103) rfl k) ?_
    show Go _ _ _ _ (T118.setTop (mkF m 104 #[iv p0, iv p1, iv p2, iv p3, rv g_1, rv b2, rv b12, iv 1, iv c2, rv sa_111, rv b115, .unset, .unset, .unset, .unset, .unset] [(.int p3), (.int 1), (.ref b115)]))
    refine go_st (fun t k => XS.bipush X118.here hx rfl (hb hby at_104) k) ?_
    show Go _ _ _ _ (T118.setTop (mkF m 106 #[iv p0, iv p1, iv p2, iv p3, rv g_1, rv b2, rv b12, iv 1, iv c2, rv sa_111, rv b115, .unset, .unset, .unset, .unset, .unset] [(.int 8), (.int p3), (.int 1), (.ref b115)]))
    refine go_st (fun t k => XS.iushr X118.here hx rfl (hb hby at_106) rfl k) ?_
    show Go _ _ _ _ (T118.setTop (mkF m 107 #[iv p0, iv p1, iv p2, iv p3, rv g_1, rv b2, rv b12, iv 1, iv c2, rv sa_111, rv b115, .unset, .unset, .unset, .unset, .unset] [(.int ((p3).toUInt32 >>> ((8 : Int32) &&& 31).toUInt32).toInt32), (.int 1), (.ref b115)]))
    refine go_st (fun t k => XS.sipush X118.here hx rfl (hb hby at_107) k) ?_
    show Go _ _ _ _ (T118.setTop (mkF m 110 #[iv p0, iv p1, iv p2, iv p3, rv g_1, rv b2, rv b12, iv 1, iv c2, rv sa_111, rv b115, .unset, .unset, .unset, .unset, .unset] [(.int 255), (.int ((p3).toUInt32 >>> ((8 : Int32) &&& 31).toUInt32).toInt32), (.int 1), (.ref b115)]))
    refine go_st (fun t k => XS.iand X118.here hx rfl (hb hby at_110) rfl k) ?_
    show Go _ _ _ _ (T118.setTop (mkF m 111 #[iv p0, iv p1, iv p2, iv p3, rv g_1, rv b2, rv b12, iv 1, iv c2, rv sa_111, rv b115, .unset, .unset, .unset, .unset, .unset] [(.int (((p3).toUInt32 >>> ((8 : Int32) &&& 31).toUInt32).toInt32 &&& (255 : Int32))), (.int 1), (.ref b115)]))
    refine go_st (fun t k => XS.i2c X118.here hx rfl (hb hby at_111) rfl k) ?_
    show Go _ _ _ _ (T118.setTop (mkF m 112 #[iv p0, iv p1, iv p2, iv p3, rv g_1, rv b2, rv b12, iv 1, iv c2, rv sa_111, rv b115, .unset, .unset, .unset, .unset, .unset] [(.int (((((p3).toUInt32 >>> ((8 : Int32) &&& 31).toUInt32).toInt32 &&& (255 : Int32))).toUInt32.toUInt16.toUInt32.toInt32)), (.int 1), (.ref b115)]))
    obtain ⟨c4, h_c4⟩ : ∃ z, z = (((((p3).toUInt32 >>> ((8 : Int32) &&& 31).toUInt32).toInt32 &&& (255 : Int32))).toUInt32.toUInt16.toUInt32.toInt32) := ⟨_, rfl⟩
    rw [← h_c4]
    show Go _ _ _ _ (T118.setTop (mkF m 112 #[iv p0, iv p1, iv p2, iv p3, rv g_1, rv b2, rv b12, iv 1, iv c2, rv sa_111, rv b115, .unset, .unset, .unset, .unset, .unset] [(.int c4), (.int 1), (.ref b115)]))
    have hc4 : ¬ c4 < 0 ∧ ¬ (255 : Int32) < c4 := by rw [h_c4]; exact and255_c _
    obtain ⟨zc122, zA122, zq122, zS122, zN122, zH122, zG122⟩ := id f121
    have hin122 : ¬ ((1 : Int32) < 0 ∨ zc122.slots.size ≤ ((1 : Int32)).toNatClampNeg) := inb_of zS122 ⟨by decide, by decide⟩
    obtain ⟨T122, h122, X122, e122, W122, st122⟩ := stC X118 hx hZ e118 zA122 (j := (1 : Int32)) hin122 (g := (mkF m 112 #[iv p0, iv p1, iv p2, iv p3, rv g_1, rv b2, rv b12, iv 1, iv c2, rv sa_111, rv b115, .unset, .unset, .unset, .unset, .unset] [(.int c4), (.int 1), (.ref b115)])) rfl rfl (hb hby at_112)
    have N122 := Fr.snoc X122 N118 g_b115
    have C123 : CHr Z consts_1 s.vm h0 s.vm h122 := CHr.trans C120 (CHr.wr W122 (Safe.arv hZ.alike f121 (by decide)) C120.1)
    have f124 : Arv Z h122 b115 kc115 .char (2 : Int32) [(.int (nar .char c3)), (.int (nar .char c4))] (.int 0) := Arv.set zA122 zq122 zS122 zN122 zH122 zG122 (fits_nar_char _) W122 1 rfl (Nat.le_of_ble_eq_true rfl)
    refine go_st (fun t k => st122 t k) ?_
    show Go _ _ _ _ (T122.setTop (mkF m 113 #[iv p0, iv p1, iv p2, iv p3, rv g_1, rv b2, rv b12, iv 1, iv c2, rv sa_111, rv b115, .unset, .unset, .unset, .unset, .unset] []))
    have f125 : Arv Z h122 b115 kc115 .char (2 : Int32) [(.int c3), (.int c4)] (.int 0) := by have q := f124; rw [nar_c hc3, nar_c hc4] at q; exact q
    obtain ⟨T126, h126, X126, e126, E126, A126, D126, -, st126⟩ := newO X122 hx hZ hown (w9 hw) (w10 hw) (w11 hw) e122 (g := (mkF m 113 #[iv p0, iv p1, iv p2, iv p3, rv g_1, rv b2, rv b12, iv 1, iv c2, rv sa_111, rv b115, .unset, .unset, .unset, .unset, .unset] [])) rfl (hb hby at_113) (by decide) (by decide)
    obtain ⟨b126, gq126⟩ : ∃ z, z = h122.size := ⟨_, rfl⟩
    rw [← gq126] at A126 D126 st126
    have sn126 : Safe Z consts_1 s.vm h122 b126 := Safe.new (Nat.le_of_eq gq126.symm)
    have C127 : CHr Z consts_1 s.vm h0 s.vm h126 := CHr.trans C123 (CHr.ext E126 C123.1)
    have sf128 : Safe Z consts_1 s.vm h126 b126 := Safe.ext E126 C123.1 sn126
    have f129 : Fld Z h126 b126 "java/lang/String" "coder" "B" (.int 0) := D126 (Or.inr (w35 hw)) (ty := .byte) (by decide)
    have f130 : Fld Z h126 b126 "java/lang/String" "value" "[B" .null := D126 (Or.inr (w37 hw)) (ty := (.array .byte)) (by decide)
    refine go_st (fun t k => st126 t k) ?_
    show Go _ _ _ _ (T126.setTop (mkF m 116 #[iv p0, iv p1, iv p2, iv p3, rv g_1, rv b2, rv b12, iv 1, iv c2, rv sa_111, rv b115, .unset, .unset, .unset, .unset, .unset] [(.ref b126)]))
    refine go_st (fun t k => XS.dup X126.here hx rfl (hb hby at_116) rfl rfl k) ?_
    show Go _ _ _ _ (T126.setTop (mkF m 117 #[iv p0, iv p1, iv p2, iv p3, rv g_1, rv b2, rv b12, iv 1, iv c2, rv sa_111, rv b115, .unset, .unset, .unset, .unset, .unset] [(.ref b126), (.ref b126)]))
    refine go_st (fun t k => XS.aload X126.here hx rfl (hb hby at_117) rfl rfl k) ?_
    show Go _ _ _ _ (T126.setTop (mkF m 119 #[iv p0, iv p1, iv p2, iv p3, rv g_1, rv b2, rv b12, iv 1, iv c2, rv sa_111, rv b115, .unset, .unset, .unset, .unset, .unset] [(.ref b115), (.ref b126), (.ref b126)]))
    have f131 : Arv Z h126 b115 kc115 .char (2 : Int32) [(.int c3), (.int c4)] (.int 0) := (f125.ext E126)
    have oe132 : Old Z n0 h111 := (Old.keep oe109 K111 all0)
    have oe133 : Old Z n0 h115 := (Old.ext oe132 E115)
    have oe134 : Old Z n0 h118 := (Old.wr oe133 W118 g_b115)
    have oe135 : Old Z n0 h122 := (Old.wr oe134 W122 g_b115)
    have oe136 : Old Z n0 h126 := (Old.ext oe135 E126)
    have sz137 : h0.size ≤ h115.size := (Nat.le_trans sz119 E115.1)
    have sz138 : h0.size ≤ h118.size := (Nat.le_trans sz137 (Nat.le_of_eq W118.size.symm))
    have sz139 : h0.size ≤ h122.size := (Nat.le_trans sz138 (Nat.le_of_eq W122.size.symm))
    have g_b126 : n0 ≤ b126 := Nat.le_trans (Nat.le_trans Z0 sz139) (Nat.le_of_eq gq126.symm)
    have sz140 : h0.size ≤ h126.size := (Nat.le_trans sz139 E126.1)
    obtain ⟨_, _, ⟨T141, L141, kk141, nn141⟩, -, X141, ⟨Lc141, hQ141, lq141, yq141, zq141⟩, st141⟩ := X126.specialBack hx (y := (⟨"java/lang/String", "<init>", "([C)V"⟩ : MethodName)) rfl hown (mvT hZ (w12 hw)) (mvT hZ (w13 hw)) (mvT hZ (w14 hw)) (by decide) (StrChars.Road.backV (W := 1) hZ (words_in str_words hw) (kI := 4) (w10 hw) (cs := ([c3, c4] : List Int32)) (bs := ([c3, c4] : List Int32).map (fun c => c.toInt8.toInt32)) (n := 2) g_b126 (Nat.le_trans Z0 sz140) A126 f130 f129 f131 (Sta.ext oe136.2 CS) CSn rfl rfl (by decide) (by decide) (chars_cons hc3 (chars_cons hc4 chars_nil)) rfl (by decide) (by decide)) (g := (mkF m 119 #[iv p0, iv p1, iv p2, iv p3, rv g_1, rv b2, rv b12, iv 1, iv c2, rv sa_111, rv b115, .unset, .unset, .unset, .unset, .unset] [(.ref b115), (.ref b126), (.ref b126)])) rfl (by rw [hml]; rfl) (Steps.refl _) (a := b126) (argsL := [(.ref b115)]) (rest := [(.ref b126)]) (lenOf pd_19 rfl) rfl (by show 2 * 0 + _ ≤ _; exact Nat.le_of_eq rfl) (hb hby at_119) (fun _ _ => ⟨rfl, e126, (by decide : 7 + 1 ≤ _), (by decide : 19 + 2 ≤ _)⟩)
    dsimp only [Pt.U, Pt.locs, Pt.cells, Pt.slots] at X141 lq141 yq141 zq141 st141 hQ141
    obtain rfl : kk141 = 8 := yq141
    obtain rfl : nn141 = 21 := zq141
    obtain ⟨h141, e141⟩ : ∃ z, T141.heap = z := ⟨_, rfl⟩
    rw [e141] at hQ141
    obtain ⟨rfl, N141q, K141, Es141, Cs141, t141, kb141, gt141, lt141, nt141, Vs141, As141⟩ := hQ141
    have N141 : Fr n0 L141 := by rw [lq141]; exact Fr.app N122 N141q
    have C142 : CHr Z consts_1 s.vm h0 s.vm h141 := CHr.trans C127 (CHr.keep K141 (sfS sf128 sf0) C127.1)
    have sf143 : Safe Z consts_1 s.vm h141 b126 := (Safe.keep K141 (sfS sf128 sf0) C127.1 sf128)
    refine go_tr st141 ?_
    show Go _ _ _ _ (T141.setTop (mkF m 122 #[iv p0, iv p1, iv p2, iv p3, rv g_1, rv b2, rv b12, iv 1, iv c2, rv sa_111, rv b115, .unset, .unset, .unset, .unset, .unset] [(.ref b126)]))
    have f144 : Arv Z h141 t141 kb141 .byte (2 : Int32) [(.int (c3.toInt8.toInt32)), (.int (c4.toInt8.toInt32))] (.int 0) := As141
    refine go_st (fun t k => XS.astore X141.here hx rfl (hb hby at_122) rfl rfl (l' := #[iv p0, iv p1, iv p2, iv p3, rv g_1, rv b2, rv b12, iv 1, iv c2, rv sa_111, rv b115, rv b126, .unset, .unset, .unset, .unset]) rfl k) ?_
    show Go _ _ _ _ (T141.setTop (mkF m 124 #[iv p0, iv p1, iv p2, iv p3, rv g_1, rv b2, rv b12, iv 1, iv c2, rv sa_111, rv b115, rv b126, .unset, .unset, .unset, .unset] []))
    refine go_st (fun t k => XS.aload X141.here hx rfl (hb hby at_124) rfl rfl k) ?_
    show Go _ _ _ _ (T141.setTop (mkF m 126 #[iv p0, iv p1, iv p2, iv p3, rv g_1, rv b2, rv b12, iv 1, iv c2, rv sa_111, rv b115, rv b126, .unset, .unset, .unset, .unset] [(.ref b12)]))
    refine go_st (fun t k => XS.aload X141.here hx rfl (hb hby at_126) rfl rfl k) ?_
    show Go _ _ _ _ (T141.setTop (mkF m 128 #[iv p0, iv p1, iv p2, iv p3, rv g_1, rv b2, rv b12, iv 1, iv c2, rv sa_111, rv b115, rv b126, .unset, .unset, .unset, .unset] [(.ref g_1), (.ref b12)]))
    refine go_st (fun t k => XS.aload X141.here hx rfl (hb hby at_128) rfl rfl k) ?_
    show Go _ _ _ _ (T141.setTop (mkF m 130 #[iv p0, iv p1, iv p2, iv p3, rv g_1, rv b2, rv b12, iv 1, iv c2, rv sa_111, rv b115, rv b126, .unset, .unset, .unset, .unset] [(.ref sa_111), (.ref g_1), (.ref b12)]))
    refine go_st (fun t k => XS.aload X141.here hx rfl (hb hby at_130) rfl rfl k) ?_
    show Go _ _ _ _ (T141.setTop (mkF m 132 #[iv p0, iv p1, iv p2, iv p3, rv g_1, rv b2, rv b12, iv 1, iv c2, rv sa_111, rv b115, rv b126, .unset, .unset, .unset, .unset] [(.ref b126), (.ref sa_111), (.ref g_1), (.ref b12)]))
    have sz145 : h0.size ≤ h141.size := (Nat.le_trans sz140 K141.1)
    obtain ⟨_, _, ⟨T146, L146, kk146, nn146⟩, -, X146, ⟨Lc146, hQ146, lq146, yq146, zq146⟩, st146⟩ := Jvm.LawKit.callS X141 hx (y := (⟨"com/example/tuplet/tuplet/Commands$Option", "of", "(Ljava/lang/String;Lcom/example/tuplet/tuplet/Commands$Kind;Ljava/lang/String;Ljava/lang/String;)Lcom/example/tuplet/tuplet/Commands$Option;"⟩ : MethodName)) hown (mvT hZ (w41 hw)) (mvT hZ (w42 hw)) (mvT hZ (w43 hw)) (mvT hZ (w44 hw)) (by decide) (backOf (W := 0) (rm_of l Z a0 hw [] (.ref b12) (.ref g_1) (.ref sa_111) (.ref b126) h141 n0 (Nat.le_trans Z0 sz145) rfl rfl rfl rfl) hZ (w44 hw) (w43 hw) (by decide) (by decide)) (g := (mkF m 132 #[iv p0, iv p1, iv p2, iv p3, rv g_1, rv b2, rv b12, iv 1, iv c2, rv sa_111, rv b115, rv b126, .unset, .unset, .unset, .unset] [(.ref b126), (.ref sa_111), (.ref g_1), (.ref b12)])) rfl (by rw [hml]; rfl) (argsL := [(.ref b12), (.ref g_1), (.ref sa_111), (.ref b126)]) (rest := []) (lenOf pd_20 rfl) rfl (by show 2 * 0 + _ ≤ _; exact Nat.le_of_eq rfl) (hb hby at_132) (fun _ _ => ⟨rfl, e141, (by decide : 8 + 1 ≤ _), (by decide : 21 + 6 ≤ _)⟩)
    dsimp only [Pt.U, Pt.locs, Pt.cells, Pt.slots] at X146 lq146 yq146 zq146 st146 hQ146
    obtain rfl : kk146 = 9 := yq146
    obtain rfl : nn146 = 27 := zq146
    obtain ⟨h146, e146⟩ : ∃ z, T146.heap = z := ⟨_, rfl⟩
    rw [e146] at hQ146
    obtain ⟨b_146, rfl, N146q, K146, gf146_0, lf146_0, p146_1, p146_2, p146_3, p146_4, p146_5, p146_6, p146_7⟩ := hQ146
    have N146 : Fr n0 L146 := by rw [lq146]; exact Fr.app N141 N146q
    have C147 : CHr Z consts_1 s.vm h0 s.vm h146 := CHr.trans C142 (CHr.keep K146 sf0 C142.1)
    refine go_st st146 ?_
    show Go _ _ _ _ (T146.setTop (mkF m 135 #[iv p0, iv p1, iv p2, iv p3, rv g_1, rv b2, rv b12, iv 1, iv c2, rv sa_111, rv b115, rv b126, .unset, .unset, .unset, .unset] [(.ref b_146)]))
    refine go_st (fun t k => XS.astore X146.here hx rfl (hb hby at_135) rfl rfl (l' := #[iv p0, iv p1, iv p2, iv p3, rv g_1, rv b2, rv b12, iv 1, iv c2, rv sa_111, rv b115, rv b126, rv b_146, .unset, .unset, .unset]) rfl k) ?_
    show Go _ _ _ _ (T146.setTop (mkF m 137 #[iv p0, iv p1, iv p2, iv p3, rv g_1, rv b2, rv b12, iv 1, iv c2, rv sa_111, rv b115, rv b126, rv b_146, .unset, .unset, .unset] []))
    refine go_st (fun t k => XS.aload X146.here hx rfl (hb hby at_137) rfl rfl k) ?_
    show Go _ _ _ _ (T146.setTop (mkF m 139 #[iv p0, iv p1, iv p2, iv p3, rv g_1, rv b2, rv b12, iv 1, iv c2, rv sa_111, rv b115, rv b126, rv b_146, .unset, .unset, .unset] [(.ref b_146)]))
    have sz148 : h0.size ≤ h146.size := (Nat.le_trans sz145 K146.1)
    obtain ⟨cq149, kq149, q149a, q149b, q149c⟩ := isOf hZ e146 p146_1
    obtain ⟨_, _, ⟨T149, L149, kk149, nn149⟩, -, X149, ⟨Lc149, hQ149, lq149, yq149, zq149⟩, st149⟩ := X146.virtualBack hx (y := (⟨"com/example/tuplet/tuplet/Commands$Option", "name", "()Ljava/lang/String;"⟩ : MethodName)) (z := (⟨"com/example/tuplet/tuplet/Commands$Option", "name", "()Ljava/lang/String;"⟩ : MethodName)) hown (mvT hZ (w68 hw)) (mvT hZ (w69 hw)) (notFace_of_selects (args := #[]) (mvT hZ (w71 hw))) (mvT hZ (w71 hw)) (mvT hZ (w70 hw)) (by decide) (backOf (W := 0) (rm_get_name l Z a0 hw [] b_146 (.ref b12) h146 n0 (Nat.le_trans Z0 sz148) p146_2 rfl) hZ (w72 hw) (w43 hw) (by decide) (by decide)) q149a q149c (g := (mkF m 139 #[iv p0, iv p1, iv p2, iv p3, rv g_1, rv b2, rv b12, iv 1, iv c2, rv sa_111, rv b115, rv b126, rv b_146, .unset, .unset, .unset] [(.ref b_146)])) rfl (by rw [hml]; rfl) (Steps.refl _) (argsL := []) (rest := []) (lenOf pd_17 rfl) rfl (by show 2 * 0 + _ ≤ _; exact Nat.le_of_eq rfl) (hb hby at_139) (fun _ _ => ⟨rfl, e146, (by decide : 9 + 0 ≤ _), (by decide : 27 + 0 ≤ _)⟩)
    dsimp only [Pt.U, Pt.locs, Pt.cells, Pt.slots] at X149 lq149 yq149 zq149 st149 hQ149
    obtain rfl : kk149 = 9 := yq149
    obtain rfl : nn149 = 27 := zq149
    obtain ⟨h149, e149⟩ : ∃ z, T149.heap = z := ⟨_, rfl⟩
    rw [e149] at hQ149
    obtain ⟨rfl, N149q, he149⟩ := hQ149
    have N149 : Fr n0 L149 := by rw [lq149]; exact Fr.app N146 N149q
    rw [he149] at e149
    refine go_tr st149 ?_
    show Go _ _ _ _ (T149.setTop (mkF m 142 #[iv p0, iv p1, iv p2, iv p3, rv g_1, rv b2, rv b12, iv 1, iv c2, rv sa_111, rv b115, rv b126, rv b_146, .unset, .unset, .unset] [(.ref b12)]))
    refine go_st (fun t k => XS.aload X149.here hx rfl (hb hby at_142) rfl rfl k) ?_
    show Go _ _ _ _ (T149.setTop (mkF m 144 #[iv p0, iv p1, iv p2, iv p3, rv g_1, rv b2, rv b12, iv 1, iv c2, rv sa_111, rv b115, rv b126, rv b_146, .unset, .unset, .unset] [(.ref b12), (.ref b12)]))
    have f151 : Exa Z h146 b12 "java/lang/String" := (((((((Es25.keep K111).ext E115).wr W118).wr W122).ext E126).keep K141).keep K146)
    obtain ⟨cq150, kq150, q150a, q150b, q150c⟩ := isOf hZ e149 f151
    obtain ⟨_, _, ⟨T150, L150, kk150, nn150⟩, -, X150, ⟨Lc150, hQ150, lq150, yq150, zq150⟩, st150⟩ := X149.virtualBack hx (y := (⟨"java/lang/String", "equals", "(Ljava/lang/Object;)Z"⟩ : MethodName)) (z := (⟨"java/lang/String", "equals", "(Ljava/lang/Object;)Z"⟩ : MethodName)) hown (mvT hZ (w73 hw)) (mvT hZ (w74 hw)) (notFace_of_selects (args := #[]) (mvT hZ (w76 hw))) (mvT hZ (w76 hw)) (mvT hZ (w75 hw)) (by decide) (backOf (W := 0) (rm_eqsame l Z a0 hw [] b12 h146 n0 (Nat.le_trans Z0 sz148) ) hZ (w77 hw) (w11 hw) (by decide) (by decide)) q150a q150c (g := (mkF m 144 #[iv p0, iv p1, iv p2, iv p3, rv g_1, rv b2, rv b12, iv 1, iv c2, rv sa_111, rv b115, rv b126, rv b_146, .unset, .unset, .unset] [(.ref b12), (.ref b12)])) rfl (by rw [hml]; rfl) (Steps.refl _) (argsL := [(.ref b12)]) (rest := []) (lenOf pd_21 rfl) rfl (by show 2 * 0 + _ ≤ _; exact Nat.le_of_eq rfl) (hb hby at_144) (fun _ _ => ⟨rfl, e149, (by decide : 9 + 0 ≤ _), (by decide : 27 + 0 ≤ _)⟩)
    dsimp only [Pt.U, Pt.locs, Pt.cells, Pt.slots] at X150 lq150 yq150 zq150 st150 hQ150
    obtain rfl : kk150 = 9 := yq150
    obtain rfl : nn150 = 27 := zq150
    obtain ⟨h150, e150⟩ : ∃ z, T150.heap = z := ⟨_, rfl⟩
    rw [e150] at hQ150
    obtain ⟨rfl, N150q, he150⟩ := hQ150
    have N150 : Fr n0 L150 := by rw [lq150]; exact Fr.app N149 N150q
    rw [he150] at e150
    refine go_tr st150 ?_
    show Go _ _ _ _ (T150.setTop (mkF m 147 #[iv p0, iv p1, iv p2, iv p3, rv g_1, rv b2, rv b12, iv 1, iv c2, rv sa_111, rv b115, rv b126, rv b_146, .unset, .unset, .unset] [(.int 1)]))
    refine go_st (fun t k => XS.ifNo X150.here hx rfl (hb hby at_147) rfl ((if0 _ _).trans (feq ((by decide) : ¬ ((1 : Int32) = (0 : Int32)))).1) k) ?_
    show Go _ _ _ _ (T150.setTop (mkF m 150 #[iv p0, iv p1, iv p2, iv p3, rv g_1, rv b2, rv b12, iv 1, iv c2, rv sa_111, rv b115, rv b126, rv b_146, .unset, .unset, .unset] []))
    refine go_st (fun t k => XS.aload X150.here hx rfl (hb hby at_150) rfl rfl k) ?_
    show Go _ _ _ _ (T150.setTop (mkF m 152 #[iv p0, iv p1, iv p2, iv p3, rv g_1, rv b2, rv b12, iv 1, iv c2, rv sa_111, rv b115, rv b126, rv b_146, .unset, .unset, .unset] [(.ref b_146)]))
    obtain ⟨cq152, kq152, q152a, q152b, q152c⟩ := isOf hZ e150 p146_1
    obtain ⟨_, _, ⟨T152, L152, kk152, nn152⟩, -, X152, ⟨Lc152, hQ152, lq152, yq152, zq152⟩, st152⟩ := X150.virtualBack hx (y := (⟨"com/example/tuplet/tuplet/Commands$Option", "kind", "()Lcom/example/tuplet/tuplet/Commands$Kind;"⟩ : MethodName)) (z := (⟨"com/example/tuplet/tuplet/Commands$Option", "kind", "()Lcom/example/tuplet/tuplet/Commands$Kind;"⟩ : MethodName)) hown (mvT hZ (w78 hw)) (mvT hZ (w79 hw)) (nf_same (y := (⟨"com/example/tuplet/tuplet/Commands$Option", "kind", "()Lcom/example/tuplet/tuplet/Commands$Kind;"⟩ : MethodName)) (y' := (⟨"com/example/tuplet/tuplet/Commands$Option", "name", "()Ljava/lang/String;"⟩ : MethodName)) (a0 := #[]) rfl (mvT hZ (w70 hw)) (notFace_of_selects (args := #[]) (mvT hZ (w71 hw)))) (mvT hZ (w81 hw)) (mvT hZ (w80 hw)) (by decide) (backOf (W := 0) (rm_get_kind l Z a0 hw [] b_146 (.ref g_1) h146 n0 (Nat.le_trans Z0 sz148) p146_3 rfl) hZ (w82 hw) (w43 hw) (by decide) (by decide)) q152a q152c (g := (mkF m 152 #[iv p0, iv p1, iv p2, iv p3, rv g_1, rv b2, rv b12, iv 1, iv c2, rv sa_111, rv b115, rv b126, rv b_146, .unset, .unset, .unset] [(.ref b_146)])) rfl (by rw [hml]; rfl) (Steps.refl _) (argsL := []) (rest := []) (lenOf pd_22 rfl) rfl (by show 2 * 0 + _ ≤ _; exact Nat.le_of_eq rfl) (hb hby at_152) (fun _ _ => ⟨rfl, e150, (by decide : 9 + 0 ≤ _), (by decide : 27 + 0 ≤ _)⟩)
    dsimp only [Pt.U, Pt.locs, Pt.cells, Pt.slots] at X152 lq152 yq152 zq152 st152 hQ152
    obtain rfl : kk152 = 9 := yq152
    obtain rfl : nn152 = 27 := zq152
    obtain ⟨h152, e152⟩ : ∃ z, T152.heap = z := ⟨_, rfl⟩
    rw [e152] at hQ152
    obtain ⟨rfl, N152q, he152⟩ := hQ152
    have N152 : Fr n0 L152 := by rw [lq152]; exact Fr.app N150 N152q
    rw [he152] at e152
    refine go_tr st152 ?_
    show Go _ _ _ _ (T152.setTop (mkF m 155 #[iv p0, iv p1, iv p2, iv p3, rv g_1, rv b2, rv b12, iv 1, iv c2, rv sa_111, rv b115, rv b126, rv b_146, .unset, .unset, .unset] [(.ref g_1)]))
    refine go_st (fun t k => XS.aload X152.here hx rfl (hb hby at_155) rfl rfl k) ?_
    show Go _ _ _ _ (T152.setTop (mkF m 157 #[iv p0, iv p1, iv p2, iv p3, rv g_1, rv b2, rv b12, iv 1, iv c2, rv sa_111, rv b115, rv b126, rv b_146, .unset, .unset, .unset] [(.ref g_1), (.ref g_1)]))
    refine go_st (fun t k => Jvm.RoadKit.acmp (g := (mkF m 157 #[iv p0, iv p1, iv p2, iv p3, rv g_1, rv b2, rv b12, iv 1, iv c2, rv sa_111, rv b115, rv b126, rv b_146, .unset, .unset, .unset] [(.ref g_1), (.ref g_1)])) X152 hx rfl rfl rfl (pc0 := 157) (pc' := 160) (same := true) rfl (hb hby at_157) rfl (decide_eq_true rfl) (by decide) (by decide) k) ?_
    show Go _ _ _ _ (T152.setTop (mkF m 160 #[iv p0, iv p1, iv p2, iv p3, rv g_1, rv b2, rv b12, iv 1, iv c2, rv sa_111, rv b115, rv b126, rv b_146, .unset, .unset, .unset] []))
    refine go_st (fun t k => XS.aload X152.here hx rfl (hb hby at_160) rfl rfl k) ?_
    show Go _ _ _ _ (T152.setTop (mkF m 162 #[iv p0, iv p1, iv p2, iv p3, rv g_1, rv b2, rv b12, iv 1, iv c2, rv sa_111, rv b115, rv b126, rv b_146, .unset, .unset, .unset] [(.ref b_146)]))
    obtain ⟨cq153, kq153, q153a, q153b, q153c⟩ := isOf hZ e152 p146_1
    obtain ⟨_, _, ⟨T153, L153, kk153, nn153⟩, -, X153, ⟨Lc153, hQ153, lq153, yq153, zq153⟩, st153⟩ := X152.virtualBack hx (y := (⟨"com/example/tuplet/tuplet/Commands$Option", "label", "()Ljava/lang/String;"⟩ : MethodName)) (z := (⟨"com/example/tuplet/tuplet/Commands$Option", "label", "()Ljava/lang/String;"⟩ : MethodName)) hown (mvT hZ (w83 hw)) (mvT hZ (w84 hw)) (nf_same (y := (⟨"com/example/tuplet/tuplet/Commands$Option", "label", "()Ljava/lang/String;"⟩ : MethodName)) (y' := (⟨"com/example/tuplet/tuplet/Commands$Option", "name", "()Ljava/lang/String;"⟩ : MethodName)) (a0 := #[]) rfl (mvT hZ (w70 hw)) (notFace_of_selects (args := #[]) (mvT hZ (w71 hw)))) (mvT hZ (w86 hw)) (mvT hZ (w85 hw)) (by decide) (backOf (W := 0) (rm_get_label l Z a0 hw [] b_146 (.ref sa_111) h146 n0 (Nat.le_trans Z0 sz148) p146_4 rfl) hZ (w87 hw) (w43 hw) (by decide) (by decide)) q153a q153c (g := (mkF m 162 #[iv p0, iv p1, iv p2, iv p3, rv g_1, rv b2, rv b12, iv 1, iv c2, rv sa_111, rv b115, rv b126, rv b_146, .unset, .unset, .unset] [(.ref b_146)])) rfl (by rw [hml]; rfl) (Steps.refl _) (argsL := []) (rest := []) (lenOf pd_17 rfl) rfl (by show 2 * 0 + _ ≤ _; exact Nat.le_of_eq rfl) (hb hby at_162) (fun _ _ => ⟨rfl, e152, (by decide : 9 + 0 ≤ _), (by decide : 27 + 0 ≤ _)⟩)
    dsimp only [Pt.U, Pt.locs, Pt.cells, Pt.slots] at X153 lq153 yq153 zq153 st153 hQ153
    obtain rfl : kk153 = 9 := yq153
    obtain rfl : nn153 = 27 := zq153
    obtain ⟨h153, e153⟩ : ∃ z, T153.heap = z := ⟨_, rfl⟩
    rw [e153] at hQ153
    obtain ⟨rfl, N153q, he153⟩ := hQ153
    have N153 : Fr n0 L153 := by rw [lq153]; exact Fr.app N152 N153q
    rw [he153] at e153
    refine go_tr st153 ?_
    show Go _ _ _ _ (T153.setTop (mkF m 165 #[iv p0, iv p1, iv p2, iv p3, rv g_1, rv b2, rv b12, iv 1, iv c2, rv sa_111, rv b115, rv b126, rv b_146, .unset, .unset, .unset] [(.ref sa_111)]))
    refine go_st (fun t k => XS.aload X153.here hx rfl (hb hby at_165) rfl rfl k) ?_
    show Go _ _ _ _ (T153.setTop (mkF m 167 #[iv p0, iv p1, iv p2, iv p3, rv g_1, rv b2, rv b12, iv 1, iv c2, rv sa_111, rv b115, rv b126, rv b_146, .unset, .unset, .unset] [(.ref sa_111), (.ref sa_111)]))
    have f155 : Exa Z h146 sa_111 "java/lang/String" := ((((((p111_2.ext E115).wr W118).wr W122).ext E126).keep K141).keep K146)
    obtain ⟨cq154, kq154, q154a, q154b, q154c⟩ := isOf hZ e153 f155
    obtain ⟨_, _, ⟨T154, L154, kk154, nn154⟩, -, X154, ⟨Lc154, hQ154, lq154, yq154, zq154⟩, st154⟩ := X153.virtualBack hx (y := (⟨"java/lang/String", "equals", "(Ljava/lang/Object;)Z"⟩ : MethodName)) (z := (⟨"java/lang/String", "equals", "(Ljava/lang/Object;)Z"⟩ : MethodName)) hown (mvT hZ (w73 hw)) (mvT hZ (w74 hw)) (notFace_of_selects (args := #[]) (mvT hZ (w76 hw))) (mvT hZ (w76 hw)) (mvT hZ (w75 hw)) (by decide) (backOf (W := 0) (rm_eqsame l Z a0 hw [] sa_111 h146 n0 (Nat.le_trans Z0 sz148) ) hZ (w77 hw) (w11 hw) (by decide) (by decide)) q154a q154c (g := (mkF m 167 #[iv p0, iv p1, iv p2, iv p3, rv g_1, rv b2, rv b12, iv 1, iv c2, rv sa_111, rv b115, rv b126, rv b_146, .unset, .unset, .unset] [(.ref sa_111), (.ref sa_111)])) rfl (by rw [hml]; rfl) (Steps.refl _) (argsL := [(.ref sa_111)]) (rest := []) (lenOf pd_21 rfl) rfl (by show 2 * 0 + _ ≤ _; exact Nat.le_of_eq rfl) (hb hby at_167) (fun _ _ => ⟨rfl, e153, (by decide : 9 + 0 ≤ _), (by decide : 27 + 0 ≤ _)⟩)
    dsimp only [Pt.U, Pt.locs, Pt.cells, Pt.slots] at X154 lq154 yq154 zq154 st154 hQ154
    obtain rfl : kk154 = 9 := yq154
    obtain rfl : nn154 = 27 := zq154
    obtain ⟨h154, e154⟩ : ∃ z, T154.heap = z := ⟨_, rfl⟩
    rw [e154] at hQ154
    obtain ⟨rfl, N154q, he154⟩ := hQ154
    have N154 : Fr n0 L154 := by rw [lq154]; exact Fr.app N153 N154q
    rw [he154] at e154
    refine go_tr st154 ?_
    show Go _ _ _ _ (T154.setTop (mkF m 170 #[iv p0, iv p1, iv p2, iv p3, rv g_1, rv b2, rv b12, iv 1, iv c2, rv sa_111, rv b115, rv b126, rv b_146, .unset, .unset, .unset] [(.int 1)]))
    refine go_st (fun t k => XS.ifNo X154.here hx rfl (hb hby at_170) rfl ((if0 _ _).trans (feq ((by decide) : ¬ ((1 : Int32) = (0 : Int32)))).1) k) ?_
    show Go _ _ _ _ (T154.setTop (mkF m 173 #[iv p0, iv p1, iv p2, iv p3, rv g_1, rv b2, rv b12, iv 1, iv c2, rv sa_111, rv b115, rv b126, rv b_146, .unset, .unset, .unset] []))
    refine go_st (fun t k => XS.aload X154.here hx rfl (hb hby at_173) rfl rfl k) ?_
    show Go _ _ _ _ (T154.setTop (mkF m 175 #[iv p0, iv p1, iv p2, iv p3, rv g_1, rv b2, rv b12, iv 1, iv c2, rv sa_111, rv b115, rv b126, rv b_146, .unset, .unset, .unset] [(.ref b_146)]))
    obtain ⟨cq156, kq156, q156a, q156b, q156c⟩ := isOf hZ e154 p146_1
    obtain ⟨_, _, ⟨T156, L156, kk156, nn156⟩, -, X156, ⟨Lc156, hQ156, lq156, yq156, zq156⟩, st156⟩ := X154.virtualBack hx (y := (⟨"com/example/tuplet/tuplet/Commands$Option", "help", "()Ljava/lang/String;"⟩ : MethodName)) (z := (⟨"com/example/tuplet/tuplet/Commands$Option", "help", "()Ljava/lang/String;"⟩ : MethodName)) hown (mvT hZ (w88 hw)) (mvT hZ (w89 hw)) (nf_same (y := (⟨"com/example/tuplet/tuplet/Commands$Option", "help", "()Ljava/lang/String;"⟩ : MethodName)) (y' := (⟨"com/example/tuplet/tuplet/Commands$Option", "name", "()Ljava/lang/String;"⟩ : MethodName)) (a0 := #[]) rfl (mvT hZ (w70 hw)) (notFace_of_selects (args := #[]) (mvT hZ (w71 hw)))) (mvT hZ (w91 hw)) (mvT hZ (w90 hw)) (by decide) (backOf (W := 0) (rm_get_help l Z a0 hw [] b_146 (.ref b126) h146 n0 (Nat.le_trans Z0 sz148) p146_5 rfl) hZ (w92 hw) (w43 hw) (by decide) (by decide)) q156a q156c (g := (mkF m 175 #[iv p0, iv p1, iv p2, iv p3, rv g_1, rv b2, rv b12, iv 1, iv c2, rv sa_111, rv b115, rv b126, rv b_146, .unset, .unset, .unset] [(.ref b_146)])) rfl (by rw [hml]; rfl) (Steps.refl _) (argsL := []) (rest := []) (lenOf pd_17 rfl) rfl (by show 2 * 0 + _ ≤ _; exact Nat.le_of_eq rfl) (hb hby at_175) (fun _ _ => ⟨rfl, e154, (by decide : 9 + 0 ≤ _), (by decide : 27 + 0 ≤ _)⟩)
    dsimp only [Pt.U, Pt.locs, Pt.cells, Pt.slots] at X156 lq156 yq156 zq156 st156 hQ156
    obtain rfl : kk156 = 9 := yq156
    obtain rfl : nn156 = 27 := zq156
    obtain ⟨h156, e156⟩ : ∃ z, T156.heap = z := ⟨_, rfl⟩
    rw [e156] at hQ156
    obtain ⟨rfl, N156q, he156⟩ := hQ156
    have N156 : Fr n0 L156 := by rw [lq156]; exact Fr.app N154 N156q
    rw [he156] at e156
    refine go_tr st156 ?_
    show Go _ _ _ _ (T156.setTop (mkF m 178 #[iv p0, iv p1, iv p2, iv p3, rv g_1, rv b2, rv b12, iv 1, iv c2, rv sa_111, rv b115, rv b126, rv b_146, .unset, .unset, .unset] [(.ref b126)]))
    refine go_st (fun t k => XS.aload X156.here hx rfl (hb hby at_178) rfl rfl k) ?_
    show Go _ _ _ _ (T156.setTop (mkF m 180 #[iv p0, iv p1, iv p2, iv p3, rv g_1, rv b2, rv b12, iv 1, iv c2, rv sa_111, rv b115, rv b126, rv b_146, .unset, .unset, .unset] [(.ref b126), (.ref b126)]))
    have f158 : Exa Z h146 b126 "java/lang/String" := (Es141.keep K146)
    obtain ⟨cq157, kq157, q157a, q157b, q157c⟩ := isOf hZ e156 f158
    obtain ⟨_, _, ⟨T157, L157, kk157, nn157⟩, -, X157, ⟨Lc157, hQ157, lq157, yq157, zq157⟩, st157⟩ := X156.virtualBack hx (y := (⟨"java/lang/String", "equals", "(Ljava/lang/Object;)Z"⟩ : MethodName)) (z := (⟨"java/lang/String", "equals", "(Ljava/lang/Object;)Z"⟩ : MethodName)) hown (mvT hZ (w73 hw)) (mvT hZ (w74 hw)) (notFace_of_selects (args := #[]) (mvT hZ (w76 hw))) (mvT hZ (w76 hw)) (mvT hZ (w75 hw)) (by decide) (backOf (W := 0) (rm_eqsame l Z a0 hw [] b126 h146 n0 (Nat.le_trans Z0 sz148) ) hZ (w77 hw) (w11 hw) (by decide) (by decide)) q157a q157c (g := (mkF m 180 #[iv p0, iv p1, iv p2, iv p3, rv g_1, rv b2, rv b12, iv 1, iv c2, rv sa_111, rv b115, rv b126, rv b_146, .unset, .unset, .unset] [(.ref b126), (.ref b126)])) rfl (by rw [hml]; rfl) (Steps.refl _) (argsL := [(.ref b126)]) (rest := []) (lenOf pd_21 rfl) rfl (by show 2 * 0 + _ ≤ _; exact Nat.le_of_eq rfl) (hb hby at_180) (fun _ _ => ⟨rfl, e156, (by decide : 9 + 0 ≤ _), (by decide : 27 + 0 ≤ _)⟩)
    dsimp only [Pt.U, Pt.locs, Pt.cells, Pt.slots] at X157 lq157 yq157 zq157 st157 hQ157
    obtain rfl : kk157 = 9 := yq157
    obtain rfl : nn157 = 27 := zq157
    obtain ⟨h157, e157⟩ : ∃ z, T157.heap = z := ⟨_, rfl⟩
    rw [e157] at hQ157
    obtain ⟨rfl, N157q, he157⟩ := hQ157
    have N157 : Fr n0 L157 := by rw [lq157]; exact Fr.app N156 N157q
    rw [he157] at e157
    refine go_tr st157 ?_
    show Go _ _ _ _ (T157.setTop (mkF m 183 #[iv p0, iv p1, iv p2, iv p3, rv g_1, rv b2, rv b12, iv 1, iv c2, rv sa_111, rv b115, rv b126, rv b_146, .unset, .unset, .unset] [(.int 1)]))
    refine go_st (fun t k => XS.ifNo X157.here hx rfl (hb hby at_183) rfl ((if0 _ _).trans (feq ((by decide) : ¬ ((1 : Int32) = (0 : Int32)))).1) k) ?_
    show Go _ _ _ _ (T157.setTop (mkF m 186 #[iv p0, iv p1, iv p2, iv p3, rv g_1, rv b2, rv b12, iv 1, iv c2, rv sa_111, rv b115, rv b126, rv b_146, .unset, .unset, .unset] []))
    refine go_st (fun t k => XS.aload X157.here hx rfl (hb hby at_186) rfl rfl k) ?_
    show Go _ _ _ _ (T157.setTop (mkF m 188 #[iv p0, iv p1, iv p2, iv p3, rv g_1, rv b2, rv b12, iv 1, iv c2, rv sa_111, rv b115, rv b126, rv b_146, .unset, .unset, .unset] [(.ref b_146)]))
    obtain ⟨cq159, kq159, q159a, q159b, q159c⟩ := isOf hZ e157 p146_1
    obtain ⟨_, _, ⟨T159, L159, kk159, nn159⟩, -, X159, ⟨Lc159, hQ159, lq159, yq159, zq159⟩, st159⟩ := X157.virtualBack hx (y := (⟨"com/example/tuplet/tuplet/Commands$Option", "required", "()Z"⟩ : MethodName)) (z := (⟨"com/example/tuplet/tuplet/Commands$Option", "required", "()Z"⟩ : MethodName)) hown (mvT hZ (w93 hw)) (mvT hZ (w94 hw)) (nf_same (y := (⟨"com/example/tuplet/tuplet/Commands$Option", "required", "()Z"⟩ : MethodName)) (y' := (⟨"com/example/tuplet/tuplet/Commands$Option", "name", "()Ljava/lang/String;"⟩ : MethodName)) (a0 := #[]) rfl (mvT hZ (w70 hw)) (notFace_of_selects (args := #[]) (mvT hZ (w71 hw)))) (mvT hZ (w96 hw)) (mvT hZ (w95 hw)) (by decide) (backOf (W := 0) (rm_get_required0 l Z a0 hw [] b_146 h146 n0 (Nat.le_trans Z0 sz148) p146_6) hZ (w97 hw) (w43 hw) (by decide) (by decide)) q159a q159c (g := (mkF m 188 #[iv p0, iv p1, iv p2, iv p3, rv g_1, rv b2, rv b12, iv 1, iv c2, rv sa_111, rv b115, rv b126, rv b_146, .unset, .unset, .unset] [(.ref b_146)])) rfl (by rw [hml]; rfl) (Steps.refl _) (argsL := []) (rest := []) (lenOf pd_2 rfl) rfl (by show 2 * 0 + _ ≤ _; exact Nat.le_of_eq rfl) (hb hby at_188) (fun _ _ => ⟨rfl, e157, (by decide : 9 + 0 ≤ _), (by decide : 27 + 0 ≤ _)⟩)
    dsimp only [Pt.U, Pt.locs, Pt.cells, Pt.slots] at X159 lq159 yq159 zq159 st159 hQ159
    obtain rfl : kk159 = 9 := yq159
    obtain rfl : nn159 = 27 := zq159
    obtain ⟨h159, e159⟩ : ∃ z, T159.heap = z := ⟨_, rfl⟩
    rw [e159] at hQ159
    obtain ⟨rfl, N159q, he159⟩ := hQ159
    have N159 : Fr n0 L159 := by rw [lq159]; exact Fr.app N157 N159q
    rw [he159] at e159
    refine go_tr st159 ?_
    show Go _ _ _ _ (T159.setTop (mkF m 191 #[iv p0, iv p1, iv p2, iv p3, rv g_1, rv b2, rv b12, iv 1, iv c2, rv sa_111, rv b115, rv b126, rv b_146, .unset, .unset, .unset] [(.int 0)]))
    refine go_st (fun t k => XS.ifNo X159.here hx rfl (hb hby at_191) rfl ((if0 _ _).trans (teq ((by decide) : (0 : Int32) = (0 : Int32))).2) k) ?_
    show Go _ _ _ _ (T159.setTop (mkF m 194 #[iv p0, iv p1, iv p2, iv p3, rv g_1, rv b2, rv b12, iv 1, iv c2, rv sa_111, rv b115, rv b126, rv b_146, .unset, .unset, .unset] []))
    refine go_st (fun t k => XS.aload X159.here hx rfl (hb hby at_194) rfl rfl k) ?_
    show Go _ _ _ _ (T159.setTop (mkF m 196 #[iv p0, iv p1, iv p2, iv p3, rv g_1, rv b2, rv b12, iv 1, iv c2, rv sa_111, rv b115, rv b126, rv b_146, .unset, .unset, .unset] [(.ref b_146)]))
    obtain ⟨cq160, kq160, q160a, q160b, q160c⟩ := isOf hZ e159 p146_1
    obtain ⟨_, _, ⟨T160, L160, kk160, nn160⟩, -, X160, ⟨Lc160, hQ160, lq160, yq160, zq160⟩, st160⟩ := X159.virtualBack hx (y := (⟨"com/example/tuplet/tuplet/Commands$Option", "byDefault", "()Ljava/lang/String;"⟩ : MethodName)) (z := (⟨"com/example/tuplet/tuplet/Commands$Option", "byDefault", "()Ljava/lang/String;"⟩ : MethodName)) hown (mvT hZ (w98 hw)) (mvT hZ (w99 hw)) (nf_same (y := (⟨"com/example/tuplet/tuplet/Commands$Option", "byDefault", "()Ljava/lang/String;"⟩ : MethodName)) (y' := (⟨"com/example/tuplet/tuplet/Commands$Option", "name", "()Ljava/lang/String;"⟩ : MethodName)) (a0 := #[]) rfl (mvT hZ (w70 hw)) (notFace_of_selects (args := #[]) (mvT hZ (w71 hw)))) (mvT hZ (w101 hw)) (mvT hZ (w100 hw)) (by decide) (backOf (W := 0) (rm_get_byDefault l Z a0 hw [] b_146 .null h146 n0 (Nat.le_trans Z0 sz148) p146_7 rfl) hZ (w102 hw) (w43 hw) (by decide) (by decide)) q160a q160c (g := (mkF m 196 #[iv p0, iv p1, iv p2, iv p3, rv g_1, rv b2, rv b12, iv 1, iv c2, rv sa_111, rv b115, rv b126, rv b_146, .unset, .unset, .unset] [(.ref b_146)])) rfl (by rw [hml]; rfl) (Steps.refl _) (argsL := []) (rest := []) (lenOf pd_17 rfl) rfl (by show 2 * 0 + _ ≤ _; exact Nat.le_of_eq rfl) (hb hby at_196) (fun _ _ => ⟨rfl, e159, (by decide : 9 + 0 ≤ _), (by decide : 27 + 0 ≤ _)⟩)
    dsimp only [Pt.U, Pt.locs, Pt.cells, Pt.slots] at X160 lq160 yq160 zq160 st160 hQ160
    obtain rfl : kk160 = 9 := yq160
    obtain rfl : nn160 = 27 := zq160
    obtain ⟨h160, e160⟩ : ∃ z, T160.heap = z := ⟨_, rfl⟩
    rw [e160] at hQ160
    obtain ⟨rfl, N160q, he160⟩ := hQ160
    have N160 : Fr n0 L160 := by rw [lq160]; exact Fr.app N159 N160q
    rw [he160] at e160
    refine go_tr st160 ?_
    show Go _ _ _ _ (T160.setTop (mkF m 199 #[iv p0, iv p1, iv p2, iv p3, rv g_1, rv b2, rv b12, iv 1, iv c2, rv sa_111, rv b115, rv b126, rv b_146, .unset, .unset, .unset] [.null]))
    refine go_st (fun t k => XS.ifnonnullNo X160.here hx rfl (hb hby at_199) rfl k) ?_
    show Go _ _ _ _ (T160.setTop (mkF m 202 #[iv p0, iv p1, iv p2, iv p3, rv g_1, rv b2, rv b12, iv 1, iv c2, rv sa_111, rv b115, rv b126, rv b_146, .unset, .unset, .unset] []))
    refine go_st (fun t k => XS.iconst X160.here hx rfl (hb hby at_202) k) ?_
    show Go _ _ _ _ (T160.setTop (mkF m 203 #[iv p0, iv p1, iv p2, iv p3, rv g_1, rv b2, rv b12, iv 1, iv c2, rv sa_111, rv b115, rv b126, rv b_146, .unset, .unset, .unset] [(.int 1)]))
    refine go_st (fun t k => XS.goto X160.here hx rfl (pc0 := 203) (pc' := 207) rfl (hb hby at_203) (by decide) (by decide) k) ?_
    show Go _ _ _ _ (T160.setTop (mkF m 207 #[iv p0, iv p1, iv p2, iv p3, rv g_1, rv b2, rv b12, iv 1, iv c2, rv sa_111, rv b115, rv b126, rv b_146, .unset, .unset, .unset] [(.int 1)]))
    refine go_st (fun t k => XS.istore X160.here hx rfl (hb hby at_207) rfl (l' := #[iv p0, iv p1, iv p2, iv p3, rv g_1, rv b2, rv b12, iv 1, iv c2, rv sa_111, rv b115, rv b126, rv b_146, iv 1, .unset, .unset]) rfl k) ?_
    show Go _ _ _ _ (T160.setTop (mkF m 209 #[iv p0, iv p1, iv p2, iv p3, rv g_1, rv b2, rv b12, iv 1, iv c2, rv sa_111, rv b115, rv b126, rv b_146, iv 1, .unset, .unset] []))
    refine go_st (fun t k => XS.aload X160.here hx rfl (hb hby at_209) rfl rfl k) ?_
    show Go _ _ _ _ (T160.setTop (mkF m 211 #[iv p0, iv p1, iv p2, iv p3, rv g_1, rv b2, rv b12, iv 1, iv c2, rv sa_111, rv b115, rv b126, rv b_146, iv 1, .unset, .unset] [(.ref b_146)]))
    have nq161 : sa_111 ≠ b115 := Nat.ne_of_lt (Nat.lt_of_lt_of_le (Nat.lt_of_lt_of_le p111_2.lt (Nat.le_refl _)) (Nat.le_of_eq gq115.symm))
    have sz162 : h111.size ≤ h118.size := (Nat.le_trans E115.1 (Nat.le_of_eq W118.size.symm))
    have sz163 : h111.size ≤ h122.size := (Nat.le_trans sz162 (Nat.le_of_eq W122.size.symm))
    have nq164 : sa_111 ≠ b126 := Nat.ne_of_lt (Nat.lt_of_lt_of_le (Nat.lt_of_lt_of_le p111_2.lt sz163) (Nat.le_of_eq gq126.symm))
    have f165 : Fld Z h146 sa_111 "java/lang/String" "value" "[B" (.ref ta_111) := ((((((p111_3.ext E115).other W118 (Or.inl nq161)).other W122 (Or.inl nq161)).ext E126).keep K141 (ninS nq164 nin0)).keep K146 nin0)
    have f166 : Fld Z h146 sa_111 "java/lang/String" "coder" "B" (.int 0) := ((((((p111_4.ext E115).other W118 (Or.inl nq161)).other W122 (Or.inl nq161)).ext E126).keep K141 (ninS nq164 nin0)).keep K146 nin0)
    have nq167 : ta_111 ≠ b115 := Nat.ne_of_lt (Nat.lt_of_lt_of_le (Nat.lt_of_lt_of_le p111_5.lt (Nat.le_refl _)) (Nat.le_of_eq gq115.symm))
    have nq168 : ta_111 ≠ b126 := Nat.ne_of_lt (Nat.lt_of_lt_of_le (Nat.lt_of_lt_of_le p111_5.lt sz163) (Nat.le_of_eq gq126.symm))
    have f169 : Arv Z h146 ta_111 kt_111 .byte (1 : Int32) [(.int (nar .byte (c2.toInt8.toInt32)))] (.int (0 : Int32)) := ((((((p111_5.ext E115).other W118 nq167).other W122 nq167).ext E126).keep K141 (ninS nq168 nin0)).keep K146 nin0)
    have sz170 : h12.size ≤ h111.size := (Nat.le_trans K25.1 K111.1)
    have nq171 : b12 ≠ b115 := Nat.ne_of_lt (Nat.lt_of_lt_of_le (Nat.lt_of_lt_of_le A12.lt sz170) (Nat.le_of_eq gq115.symm))
    have sz172 : h12.size ≤ h115.size := (Nat.le_trans sz170 E115.1)
    have sz173 : h12.size ≤ h118.size := (Nat.le_trans sz172 (Nat.le_of_eq W118.size.symm))
    have sz174 : h12.size ≤ h122.size := (Nat.le_trans sz173 (Nat.le_of_eq W122.size.symm))
    have nq175 : b12 ≠ b126 := Nat.ne_of_lt (Nat.lt_of_lt_of_le (Nat.lt_of_lt_of_le A12.lt sz174) (Nat.le_of_eq gq126.symm))
    have f176 : Fld Z h146 b12 "java/lang/String" "value" "[B" (.ref t25) := (((((((Vs25.keep K111 nin0).ext E115).other W118 (Or.inl nq171)).other W122 (Or.inl nq171)).ext E126).keep K141 (ninS nq175 nin0)).keep K146 nin0)
    have f177 : Fld Z h146 b12 "java/lang/String" "coder" "B" (.int 0) := (((((((Cs25.keep K111 nin0).ext E115).other W118 (Or.inl nq171)).other W122 (Or.inl nq171)).ext E126).keep K141 (ninS nq175 nin0)).keep K146 nin0)
    have nq178 : t25 ≠ b115 := Nat.ne_of_lt (Nat.lt_of_lt_of_le (Nat.lt_of_lt_of_le As25.lt K111.1) (Nat.le_of_eq gq115.symm))
    have sz179 : h25.size ≤ h115.size := (Nat.le_trans K111.1 E115.1)
    have sz180 : h25.size ≤ h118.size := (Nat.le_trans sz179 (Nat.le_of_eq W118.size.symm))
    have sz181 : h25.size ≤ h122.size := (Nat.le_trans sz180 (Nat.le_of_eq W122.size.symm))
    have nq182 : t25 ≠ b126 := Nat.ne_of_lt (Nat.lt_of_lt_of_le (Nat.lt_of_lt_of_le As25.lt sz181) (Nat.le_of_eq gq126.symm))
    have f183 : Arv Z h146 t25 kb25 .byte (2 : Int32) [(.int (c0.toInt8.toInt32)), (.int (c1.toInt8.toInt32))] (.int 0) := (((((((f28.keep K111 nin0).ext E115).other W118 nq178).other W122 nq178).ext E126).keep K141 (ninS nq182 nin0)).keep K146 nin0)
    have oe184 : Old Z n0 h141 := (Old.keep oe136 K141 (allS g_b126 all0))
    have oe185 : Old Z n0 h146 := (Old.keep oe184 K146 all0)
    obtain ⟨cq186, kq186, q186a, q186b, q186c⟩ := isOf hZ e160 p146_1
    obtain ⟨_, _, ⟨T186, L186, kk186, nn186⟩, -, X186, hs2186, hg186, ⟨Lc186, hQ186, lq186, yq186, zq186, hC186⟩, st186⟩ := X160.virtualBackS hx (y := (⟨"com/example/tuplet/tuplet/Commands$Option", "shown", "()Ljava/lang/String;"⟩ : MethodName)) (z := (⟨"com/example/tuplet/tuplet/Commands$Option", "shown", "()Ljava/lang/String;"⟩ : MethodName)) hown (mvT hZ (w103 hw)) (mvT hZ (w104 hw)) (nf_same (y := (⟨"com/example/tuplet/tuplet/Commands$Option", "shown", "()Ljava/lang/String;"⟩ : MethodName)) (y' := (⟨"com/example/tuplet/tuplet/Commands$Option", "name", "()Ljava/lang/String;"⟩ : MethodName)) (a0 := #[]) rfl (mvT hZ (w70 hw)) (notFace_of_selects (args := #[]) (mvT hZ (w71 hw)))) (mvT hZ (w106 hw)) (mvT hZ (w105 hw)) (by decide) (backOfSH (vm0 := s.vm) (W := 0) (rm_shown1 l Z a0 hw [] b_146 b12 t25 kb25 sa_111 ta_111 kt_111 (c0.toInt8.toInt32) (c1.toInt8.toInt32) (nar .byte (c2.toInt8.toInt32)) G1 h146 n0 (Nat.le_trans Z0 sz148) p146_1 p146_2 p146_4 f155 f165 f166 f169 f151 f176 f177 f183 CS CSn oe185) hZ (w107 hw) (w43 hw) (by decide) (by decide) (hEL hw) C147.1) q186a q186c (g := (mkF m 211 #[iv p0, iv p1, iv p2, iv p3, rv g_1, rv b2, rv b12, iv 1, iv c2, rv sa_111, rv b115, rv b126, rv b_146, iv 1, .unset, .unset] [(.ref b_146)])) rfl (by rw [hml]; rfl) (Steps.refl _) (argsL := []) (rest := []) (lenOf pd_17 rfl) rfl (by show 2 * 0 + _ ≤ _; exact Nat.le_of_eq rfl) (hb hby at_211) (fun _ _ => ⟨rfl, e160, (by decide : 9 + 6 ≤ _), (by decide : 27 + 36 ≤ _)⟩)
    dsimp only [Pt.U, Pt.locs, Pt.cells, Pt.slots] at X186 hs2186 hg186 lq186 yq186 zq186 st186 hQ186 hC186
    obtain rfl : kk186 = 15 := yq186
    obtain rfl : nn186 = 63 := zq186
    rw [e160] at hg186
    obtain ⟨X186, hS186, hZ186, hown186⟩ := rebS (vm0 := s.vm) hS0 (Nat.le_trans hk0 sz148) X186 hs2186 hg186 hZ hown
    obtain ⟨h186, e186⟩ : ∃ z, T186.heap = z := ⟨_, rfl⟩
    rw [e186] at hQ186 hg186 hC186 hS186
    obtain ⟨sa_186, ta_186, kt_186, rfl, N186q, K186, gf186_0, lf186_0, gf186_1, lf186_1, p186_2, p186_3, p186_4, p186_5⟩ := hQ186
    have N186 : Fr n0 L186 := by rw [lq186]; exact Fr.app N160 N186q
    have C187 : CHr Z consts_1 s.vm h0 T186.vm h186 := CHr.trans C147 hC186
    refine go_tr st186 ?_
    show Go _ _ _ _ (T186.setTop (mkF m 214 #[iv p0, iv p1, iv p2, iv p3, rv g_1, rv b2, rv b12, iv 1, iv c2, rv sa_111, rv b115, rv b126, rv b_146, iv 1, .unset, .unset] [(.ref sa_186)]))
    refine go_st (fun t k => XS.astore X186.here hx rfl (hb hby at_214) rfl rfl (l' := #[iv p0, iv p1, iv p2, iv p3, rv g_1, rv b2, rv b12, iv 1, iv c2, rv sa_111, rv b115, rv b126, rv b_146, iv 1, rv sa_186, .unset]) rfl k) ?_
    show Go _ _ _ _ (T186.setTop (mkF m 216 #[iv p0, iv p1, iv p2, iv p3, rv g_1, rv b2, rv b12, iv 1, iv c2, rv sa_111, rv b115, rv b126, rv b_146, iv 1, rv sa_186, .unset] []))
    refine go_st (fun t k => XS.iload X186.here hx rfl (hb hby at_216) rfl k) ?_
    show Go _ _ _ _ (T186.setTop (mkF m 218 #[iv p0, iv p1, iv p2, iv p3, rv g_1, rv b2, rv b12, iv 1, iv c2, rv sa_111, rv b115, rv b126, rv b_146, iv 1, rv sa_186, .unset] [(.int 1)]))
    refine go_st (fun t k => XS.ifYes X186.here hx rfl (pc0 := 218) (pc' := 233) rfl (hb hby at_218) rfl ((if0 _ _).trans (feq ((by decide) : ¬ ((1 : Int32) = (0 : Int32)))).2) (by decide) (by decide) k) ?_
    show Go _ _ _ _ (T186.setTop (mkF m 233 #[iv p0, iv p1, iv p2, iv p3, rv g_1, rv b2, rv b12, iv 1, iv c2, rv sa_111, rv b115, rv b126, rv b_146, iv 1, rv sa_186, .unset] []))
    refine go_st (fun t k => XS.aload X186.here hx rfl (hb hby at_233) rfl rfl k) ?_
    show Go _ _ _ _ (T186.setTop (mkF m 235 #[iv p0, iv p1, iv p2, iv p3, rv g_1, rv b2, rv b12, iv 1, iv c2, rv sa_111, rv b115, rv b126, rv b_146, iv 1, rv sa_186, .unset] [(.ref sa_186)]))
    have oe188 : Old Z n0 h186 := (Old.keep oe185 K186 all0)
    have sz189 : h0.size ≤ h186.size := (Nat.le_trans sz148 K186.1)
    obtain ⟨cq190, kq190, q190a, q190b, q190c⟩ := isOf hZ186 e186 p186_2
    obtain ⟨_, _, ⟨T190, L190, kk190, nn190⟩, -, X190, ⟨Lc190, hQ190, lq190, yq190, zq190⟩, st190⟩ := X186.virtualBack hx (y := (⟨"java/lang/String", "length", "()I"⟩ : MethodName)) (z := (⟨"java/lang/String", "length", "()I"⟩ : MethodName)) hown186 (mvT hZ186 (w242 hw)) (mvT hZ186 (w160 hw)) (nf_same (y := (⟨"java/lang/String", "length", "()I"⟩ : MethodName)) (y' := (⟨"java/lang/String", "equals", "(Ljava/lang/Object;)Z"⟩ : MethodName)) (a0 := #[]) rfl (mvT hZ186 (w75 hw)) (notFace_of_selects (args := #[]) (mvT hZ186 (w76 hw)))) (mvT hZ186 (w162 hw)) (mvT hZ186 (w161 hw)) (by decide) (backOf (W := 0) (rm_slength4 l Z a0 hw [] sa_186 ta_186 kt_186 (c0.toInt8.toInt32) (c1.toInt8.toInt32) (32 : Int32) (nar .byte (c2.toInt8.toInt32)) G1 h186 n0 (Nat.le_trans Z0 sz189) p186_2 p186_3 p186_4 p186_5 CS CSn oe188) hZ186 (w163 hw) (w11 hw) (by decide) (by decide)) q190a q190c (g := (mkF m 235 #[iv p0, iv p1, iv p2, iv p3, rv g_1, rv b2, rv b12, iv 1, iv c2, rv sa_111, rv b115, rv b126, rv b_146, iv 1, rv sa_186, .unset] [(.ref sa_186)])) rfl (by rw [hml]; rfl) (Steps.refl _) (argsL := []) (rest := []) (lenOf pd_5 rfl) rfl (by show 2 * 0 + _ ≤ _; exact Nat.le_of_eq rfl) (hb hby at_235) (fun _ _ => ⟨rfl, e186, (by decide : 15 + 0 ≤ _), (by decide : 63 + 0 ≤ _)⟩)
    dsimp only [Pt.U, Pt.locs, Pt.cells, Pt.slots] at X190 lq190 yq190 zq190 st190 hQ190
    obtain rfl : kk190 = 15 := yq190
    obtain rfl : nn190 = 63 := zq190
    obtain ⟨h190, e190⟩ : ∃ z, T190.heap = z := ⟨_, rfl⟩
    rw [e190] at hQ190
    obtain ⟨rfl, N190q, he190⟩ := hQ190
    have N190 : Fr n0 L190 := by rw [lq190]; exact Fr.app N186 N190q
    rw [he190] at e190
    refine go_tr st190 ?_
    show Go _ _ _ _ (T190.setTop (mkF m 238 #[iv p0, iv p1, iv p2, iv p3, rv g_1, rv b2, rv b12, iv 1, iv c2, rv sa_111, rv b115, rv b126, rv b_146, iv 1, rv sa_186, .unset] [(.int 4)]))
    refine go_st (fun t k => XS.iconst X190.here hx rfl (hb hby at_238) k) ?_
    show Go _ _ _ _ (T190.setTop (mkF m 239 #[iv p0, iv p1, iv p2, iv p3, rv g_1, rv b2, rv b12, iv 1, iv c2, rv sa_111, rv b115, rv b126, rv b_146, iv 1, rv sa_186, .unset] [(.int 4), (.int 4)]))
    refine go_st (fun t k => XS.icmpNo X190.here hx rfl (hb hby at_239) rfl (teq ((by decide) : (4 : Int32) = (4 : Int32))).2 k) ?_
    show Go _ _ _ _ (T190.setTop (mkF m 242 #[iv p0, iv p1, iv p2, iv p3, rv g_1, rv b2, rv b12, iv 1, iv c2, rv sa_111, rv b115, rv b126, rv b_146, iv 1, rv sa_186, .unset] []))
    refine go_st (fun t k => XS.aload X190.here hx rfl (hb hby at_242) rfl rfl k) ?_
    show Go _ _ _ _ (T190.setTop (mkF m 244 #[iv p0, iv p1, iv p2, iv p3, rv g_1, rv b2, rv b12, iv 1, iv c2, rv sa_111, rv b115, rv b126, rv b_146, iv 1, rv sa_186, .unset] [(.ref sa_186)]))
    refine go_st (fun t k => XS.iconst X190.here hx rfl (hb hby at_244) k) ?_
    show Go _ _ _ _ (T190.setTop (mkF m 245 #[iv p0, iv p1, iv p2, iv p3, rv g_1, rv b2, rv b12, iv 1, iv c2, rv sa_111, rv b115, rv b126, rv b_146, iv 1, rv sa_186, .unset] [(.int 0), (.ref sa_186)]))
    obtain ⟨cq191, kq191, q191a, q191b, q191c⟩ := isOf hZ186 e190 p186_2
    obtain ⟨_, _, ⟨T191, L191, kk191, nn191⟩, -, X191, ⟨Lc191, hQ191, lq191, yq191, zq191⟩, st191⟩ := X190.virtualBack hx (y := (⟨"java/lang/String", "charAt", "(I)C"⟩ : MethodName)) (z := (⟨"java/lang/String", "charAt", "(I)C"⟩ : MethodName)) hown186 (mvT hZ186 (w243 hw)) (mvT hZ186 (w244 hw)) (nf_same (y := (⟨"java/lang/String", "charAt", "(I)C"⟩ : MethodName)) (y' := (⟨"java/lang/String", "equals", "(Ljava/lang/Object;)Z"⟩ : MethodName)) (a0 := #[]) rfl (mvT hZ186 (w75 hw)) (notFace_of_selects (args := #[]) (mvT hZ186 (w76 hw)))) (mvT hZ186 (w246 hw)) (mvT hZ186 (w245 hw)) (by decide) (backOf (W := 0) (rm_chat4_0 l Z a0 hw [] sa_186 ta_186 kt_186 (c0.toInt8.toInt32) (c1.toInt8.toInt32) (32 : Int32) (nar .byte (c2.toInt8.toInt32)) fm G1 h186 n0 (Nat.le_trans Z0 sz189) p186_2 p186_3 p186_4 p186_5 hfm FS CS CSn oe188) hZ186 (w247 hw) (w11 hw) (by decide) (by decide)) q191a q191c (g := (mkF m 245 #[iv p0, iv p1, iv p2, iv p3, rv g_1, rv b2, rv b12, iv 1, iv c2, rv sa_111, rv b115, rv b126, rv b_146, iv 1, rv sa_186, .unset] [(.int 0), (.ref sa_186)])) rfl (by rw [hml]; rfl) (Steps.refl _) (argsL := [(.int 0)]) (rest := []) (lenOf pd_29 rfl) rfl (by show 2 * 0 + _ ≤ _; exact Nat.le_of_eq rfl) (hb hby at_245) (fun _ _ => ⟨rfl, e190, (by decide : 15 + 0 ≤ _), (by decide : 63 + 0 ≤ _)⟩)
    dsimp only [Pt.U, Pt.locs, Pt.cells, Pt.slots] at X191 lq191 yq191 zq191 st191 hQ191
    obtain rfl : kk191 = 15 := yq191
    obtain rfl : nn191 = 63 := zq191
    obtain ⟨h191, e191⟩ : ∃ z, T191.heap = z := ⟨_, rfl⟩
    rw [e191] at hQ191
    obtain ⟨r_191, rfl, N191q, he191, hr_191⟩ := hQ191
    have N191 : Fr n0 L191 := by rw [lq191]; exact Fr.app N190 N191q
    rw [he191] at e191
    refine go_tr st191 ?_
    show Go _ _ _ _ (T191.setTop (mkF m 248 #[iv p0, iv p1, iv p2, iv p3, rv g_1, rv b2, rv b12, iv 1, iv c2, rv sa_111, rv b115, rv b126, rv b_146, iv 1, rv sa_186, .unset] [(.int (nar .char r_191))]))
    refine go_st (fun t k => XS.aload X191.here hx rfl (hb hby at_248) rfl rfl k) ?_
    show Go _ _ _ _ (T191.setTop (mkF m 250 #[iv p0, iv p1, iv p2, iv p3, rv g_1, rv b2, rv b12, iv 1, iv c2, rv sa_111, rv b115, rv b126, rv b_146, iv 1, rv sa_186, .unset] [(.ref b2), (.int (nar .char r_191))]))
    refine go_st (fun t k => XS.iconst X191.here hx rfl (hb hby at_250) k) ?_
    show Go _ _ _ _ (T191.setTop (mkF m 251 #[iv p0, iv p1, iv p2, iv p3, rv g_1, rv b2, rv b12, iv 1, iv c2, rv sa_111, rv b115, rv b126, rv b_146, iv 1, rv sa_186, .unset] [(.int 0), (.ref b2), (.int (nar .char r_191))]))
    have sz192 : h2.size ≤ h8.size := (Nat.le_trans (Nat.le_of_eq W5.size.symm) (Nat.le_of_eq W8.size.symm))
    have nq193 : b2 ≠ b12 := Nat.ne_of_lt (Nat.lt_of_lt_of_le (Nat.lt_of_lt_of_le f4.lt sz192) (Nat.le_of_eq gq12.symm))
    have sz194 : h2.size ≤ h12.size := (Nat.le_trans sz192 E12.1)
    have sz195 : h2.size ≤ h25.size := (Nat.le_trans sz194 K25.1)
    have sz196 : h2.size ≤ h111.size := (Nat.le_trans sz195 K111.1)
    have nq197 : b2 ≠ b115 := Nat.ne_of_lt (Nat.lt_of_lt_of_le (Nat.lt_of_lt_of_le f4.lt sz196) (Nat.le_of_eq gq115.symm))
    have sz198 : h2.size ≤ h115.size := (Nat.le_trans sz196 E115.1)
    have sz199 : h2.size ≤ h118.size := (Nat.le_trans sz198 (Nat.le_of_eq W118.size.symm))
    have sz200 : h2.size ≤ h122.size := (Nat.le_trans sz199 (Nat.le_of_eq W122.size.symm))
    have nq201 : b2 ≠ b126 := Nat.ne_of_lt (Nat.lt_of_lt_of_le (Nat.lt_of_lt_of_le f4.lt sz200) (Nat.le_of_eq gq126.symm))
    have f202 : Arv Z h186 b2 kc2 .char (2 : Int32) [(.int c0), (.int c1)] (.int 0) := (((((((((f17.keep K25 (ninS nq193 nin0)).keep K111 nin0).ext E115).other W118 nq197).other W122 nq197).ext E126).keep K141 (ninS nq201 nin0)).keep K146 nin0).keep K186 nin0)
    obtain ⟨zc203, zA203, zq203, zS203, zN203, zH203, zG203⟩ := id f202
    have hin203 : ¬ ((0 : Int32) < 0 ∨ zc203.slots.size ≤ ((0 : Int32)).toNatClampNeg) := inb_of zS203 ⟨by decide, by decide⟩
    have hat203 : zc203.slots[((0 : Int32)).toNatClampNeg]? = some (.int c0) := Has.at zH203 hin203 rfl
    refine go_st (fun t k => X191.caload hx (j := (0 : Int32)) (v := (.int c0)) (by rw [e191]; exact zA203.1) (State.isArrayOf_alike hZ186.alike zA203.2.1) zA203.2.2 hin203 hat203 (g := (mkF m 251 #[iv p0, iv p1, iv p2, iv p3, rv g_1, rv b2, rv b12, iv 1, iv c2, rv sa_111, rv b115, rv b126, rv b_146, iv 1, rv sa_186, .unset] [(.int 0), (.ref b2), (.int (nar .char r_191))])) rfl rfl (hb hby at_251) t k) ?_
    show Go _ _ _ _ (T191.setTop (mkF m 252 #[iv p0, iv p1, iv p2, iv p3, rv g_1, rv b2, rv b12, iv 1, iv c2, rv sa_111, rv b115, rv b126, rv b_146, iv 1, rv sa_186, .unset] [(.int c0), (.int (nar .char r_191))]))
    refine go_st (fun t k => XS.icmpNo X191.here hx rfl (hb hby at_252) rfl (teq ((by rw [hr_191]; exact chat_c hc0) : (nar .char r_191) = c0)).2 k) ?_
    show Go _ _ _ _ (T191.setTop (mkF m 255 #[iv p0, iv p1, iv p2, iv p3, rv g_1, rv b2, rv b12, iv 1, iv c2, rv sa_111, rv b115, rv b126, rv b_146, iv 1, rv sa_186, .unset] []))
    refine go_st (fun t k => XS.aload X191.here hx rfl (hb hby at_255) rfl rfl k) ?_
    show Go _ _ _ _ (T191.setTop (mkF m 257 #[iv p0, iv p1, iv p2, iv p3, rv g_1, rv b2, rv b12, iv 1, iv c2, rv sa_111, rv b115, rv b126, rv b_146, iv 1, rv sa_186, .unset] [(.ref sa_186)]))
    refine go_st (fun t k => XS.iconst X191.here hx rfl (hb hby at_257) k) ?_
    show Go _ _ _ _ (T191.setTop (mkF m 258 #[iv p0, iv p1, iv p2, iv p3, rv g_1, rv b2, rv b12, iv 1, iv c2, rv sa_111, rv b115, rv b126, rv b_146, iv 1, rv sa_186, .unset] [(.int 1), (.ref sa_186)]))
    obtain ⟨cq204, kq204, q204a, q204b, q204c⟩ := isOf hZ186 e191 p186_2
    obtain ⟨_, _, ⟨T204, L204, kk204, nn204⟩, -, X204, ⟨Lc204, hQ204, lq204, yq204, zq204⟩, st204⟩ := X191.virtualBack hx (y := (⟨"java/lang/String", "charAt", "(I)C"⟩ : MethodName)) (z := (⟨"java/lang/String", "charAt", "(I)C"⟩ : MethodName)) hown186 (mvT hZ186 (w243 hw)) (mvT hZ186 (w244 hw)) (nf_same (y := (⟨"java/lang/String", "charAt", "(I)C"⟩ : MethodName)) (y' := (⟨"java/lang/String", "equals", "(Ljava/lang/Object;)Z"⟩ : MethodName)) (a0 := #[]) rfl (mvT hZ186 (w75 hw)) (notFace_of_selects (args := #[]) (mvT hZ186 (w76 hw)))) (mvT hZ186 (w246 hw)) (mvT hZ186 (w245 hw)) (by decide) (backOf (W := 0) (rm_chat4_1 l Z a0 hw [] sa_186 ta_186 kt_186 (c0.toInt8.toInt32) (c1.toInt8.toInt32) (32 : Int32) (nar .byte (c2.toInt8.toInt32)) fm G1 h186 n0 (Nat.le_trans Z0 sz189) p186_2 p186_3 p186_4 p186_5 hfm FS CS CSn oe188) hZ186 (w247 hw) (w11 hw) (by decide) (by decide)) q204a q204c (g := (mkF m 258 #[iv p0, iv p1, iv p2, iv p3, rv g_1, rv b2, rv b12, iv 1, iv c2, rv sa_111, rv b115, rv b126, rv b_146, iv 1, rv sa_186, .unset] [(.int 1), (.ref sa_186)])) rfl (by rw [hml]; rfl) (Steps.refl _) (argsL := [(.int 1)]) (rest := []) (lenOf pd_29 rfl) rfl (by show 2 * 0 + _ ≤ _; exact Nat.le_of_eq rfl) (hb hby at_258) (fun _ _ => ⟨rfl, e191, (by decide : 15 + 0 ≤ _), (by decide : 63 + 0 ≤ _)⟩)
    dsimp only [Pt.U, Pt.locs, Pt.cells, Pt.slots] at X204 lq204 yq204 zq204 st204 hQ204
    obtain rfl : kk204 = 15 := yq204
    obtain rfl : nn204 = 63 := zq204
    obtain ⟨h204, e204⟩ : ∃ z, T204.heap = z := ⟨_, rfl⟩
    rw [e204] at hQ204
    obtain ⟨r_204, rfl, N204q, he204, hr_204⟩ := hQ204
    have N204 : Fr n0 L204 := by rw [lq204]; exact Fr.app N191 N204q
    rw [he204] at e204
    refine go_tr st204 ?_
    show Go _ _ _ _ (T204.setTop (mkF m 261 #[iv p0, iv p1, iv p2, iv p3, rv g_1, rv b2, rv b12, iv 1, iv c2, rv sa_111, rv b115, rv b126, rv b_146, iv 1, rv sa_186, .unset] [(.int (nar .char r_204))]))
    refine go_st (fun t k => XS.aload X204.here hx rfl (hb hby at_261) rfl rfl k) ?_
    show Go _ _ _ _ (T204.setTop (mkF m 263 #[iv p0, iv p1, iv p2, iv p3, rv g_1, rv b2, rv b12, iv 1, iv c2, rv sa_111, rv b115, rv b126, rv b_146, iv 1, rv sa_186, .unset] [(.ref b2), (.int (nar .char r_204))]))
    refine go_st (fun t k => XS.iconst X204.here hx rfl (hb hby at_263) k) ?_
    show Go _ _ _ _ (T204.setTop (mkF m 264 #[iv p0, iv p1, iv p2, iv p3, rv g_1, rv b2, rv b12, iv 1, iv c2, rv sa_111, rv b115, rv b126, rv b_146, iv 1, rv sa_186, .unset] [(.int 1), (.ref b2), (.int (nar .char r_204))]))
    obtain ⟨zc205, zA205, zq205, zS205, zN205, zH205, zG205⟩ := id f202
    have hin205 : ¬ ((1 : Int32) < 0 ∨ zc205.slots.size ≤ ((1 : Int32)).toNatClampNeg) := inb_of zS205 ⟨by decide, by decide⟩
    have hat205 : zc205.slots[((1 : Int32)).toNatClampNeg]? = some (.int c1) := Has.at zH205 hin205 rfl
    refine go_st (fun t k => X204.caload hx (j := (1 : Int32)) (v := (.int c1)) (by rw [e204]; exact zA205.1) (State.isArrayOf_alike hZ186.alike zA205.2.1) zA205.2.2 hin205 hat205 (g := (mkF m 264 #[iv p0, iv p1, iv p2, iv p3, rv g_1, rv b2, rv b12, iv 1, iv c2, rv sa_111, rv b115, rv b126, rv b_146, iv 1, rv sa_186, .unset] [(.int 1), (.ref b2), (.int (nar .char r_204))])) rfl rfl (hb hby at_264) t k) ?_
    show Go _ _ _ _ (T204.setTop (mkF m 265 #[iv p0, iv p1, iv p2, iv p3, rv g_1, rv b2, rv b12, iv 1, iv c2, rv sa_111, rv b115, rv b126, rv b_146, iv 1, rv sa_186, .unset] [(.int c1), (.int (nar .char r_204))]))
    refine go_st (fun t k => XS.icmpNo X204.here hx rfl (hb hby at_265) rfl (teq ((by rw [hr_204]; exact chat_c hc1) : (nar .char r_204) = c1)).2 k) ?_
    show Go _ _ _ _ (T204.setTop (mkF m 268 #[iv p0, iv p1, iv p2, iv p3, rv g_1, rv b2, rv b12, iv 1, iv c2, rv sa_111, rv b115, rv b126, rv b_146, iv 1, rv sa_186, .unset] []))
    refine go_st (fun t k => XS.aload X204.here hx rfl (hb hby at_268) rfl rfl k) ?_
    show Go _ _ _ _ (T204.setTop (mkF m 270 #[iv p0, iv p1, iv p2, iv p3, rv g_1, rv b2, rv b12, iv 1, iv c2, rv sa_111, rv b115, rv b126, rv b_146, iv 1, rv sa_186, .unset] [(.ref sa_186)]))
    refine go_st (fun t k => XS.iconst X204.here hx rfl (hb hby at_270) k) ?_
    show Go _ _ _ _ (T204.setTop (mkF m 271 #[iv p0, iv p1, iv p2, iv p3, rv g_1, rv b2, rv b12, iv 1, iv c2, rv sa_111, rv b115, rv b126, rv b_146, iv 1, rv sa_186, .unset] [(.int 2), (.ref sa_186)]))
    obtain ⟨cq206, kq206, q206a, q206b, q206c⟩ := isOf hZ186 e204 p186_2
    obtain ⟨_, _, ⟨T206, L206, kk206, nn206⟩, -, X206, ⟨Lc206, hQ206, lq206, yq206, zq206⟩, st206⟩ := X204.virtualBack hx (y := (⟨"java/lang/String", "charAt", "(I)C"⟩ : MethodName)) (z := (⟨"java/lang/String", "charAt", "(I)C"⟩ : MethodName)) hown186 (mvT hZ186 (w243 hw)) (mvT hZ186 (w244 hw)) (nf_same (y := (⟨"java/lang/String", "charAt", "(I)C"⟩ : MethodName)) (y' := (⟨"java/lang/String", "equals", "(Ljava/lang/Object;)Z"⟩ : MethodName)) (a0 := #[]) rfl (mvT hZ186 (w75 hw)) (notFace_of_selects (args := #[]) (mvT hZ186 (w76 hw)))) (mvT hZ186 (w246 hw)) (mvT hZ186 (w245 hw)) (by decide) (backOf (W := 0) (rm_chat4_2 l Z a0 hw [] sa_186 ta_186 kt_186 (c0.toInt8.toInt32) (c1.toInt8.toInt32) (32 : Int32) (nar .byte (c2.toInt8.toInt32)) fm G1 h186 n0 (Nat.le_trans Z0 sz189) p186_2 p186_3 p186_4 p186_5 hfm FS CS CSn oe188) hZ186 (w247 hw) (w11 hw) (by decide) (by decide)) q206a q206c (g := (mkF m 271 #[iv p0, iv p1, iv p2, iv p3, rv g_1, rv b2, rv b12, iv 1, iv c2, rv sa_111, rv b115, rv b126, rv b_146, iv 1, rv sa_186, .unset] [(.int 2), (.ref sa_186)])) rfl (by rw [hml]; rfl) (Steps.refl _) (argsL := [(.int 2)]) (rest := []) (lenOf pd_29 rfl) rfl (by show 2 * 0 + _ ≤ _; exact Nat.le_of_eq rfl) (hb hby at_271) (fun _ _ => ⟨rfl, e204, (by decide : 15 + 0 ≤ _), (by decide : 63 + 0 ≤ _)⟩)
    dsimp only [Pt.U, Pt.locs, Pt.cells, Pt.slots] at X206 lq206 yq206 zq206 st206 hQ206
    obtain rfl : kk206 = 15 := yq206
    obtain rfl : nn206 = 63 := zq206
    obtain ⟨h206, e206⟩ : ∃ z, T206.heap = z := ⟨_, rfl⟩
    rw [e206] at hQ206
    obtain ⟨r_206, rfl, N206q, he206, hr_206⟩ := hQ206
    have N206 : Fr n0 L206 := by rw [lq206]; exact Fr.app N204 N206q
    rw [he206] at e206
    refine go_tr st206 ?_
    show Go _ _ _ _ (T206.setTop (mkF m 274 #[iv p0, iv p1, iv p2, iv p3, rv g_1, rv b2, rv b12, iv 1, iv c2, rv sa_111, rv b115, rv b126, rv b_146, iv 1, rv sa_186, .unset] [(.int (nar .char r_206))]))
    refine go_st (fun t k => XS.bipush X206.here hx rfl (hb hby at_274) k) ?_
    show Go _ _ _ _ (T206.setTop (mkF m 276 #[iv p0, iv p1, iv p2, iv p3, rv g_1, rv b2, rv b12, iv 1, iv c2, rv sa_111, rv b115, rv b126, rv b_146, iv 1, rv sa_186, .unset] [(.int 32), (.int (nar .char r_206))]))
    refine go_st (fun t k => XS.icmpNo X206.here hx rfl (hb hby at_276) rfl (teq ((by rw [hr_206]; decide) : (nar .char r_206) = (32 : Int32))).2 k) ?_
    show Go _ _ _ _ (T206.setTop (mkF m 279 #[iv p0, iv p1, iv p2, iv p3, rv g_1, rv b2, rv b12, iv 1, iv c2, rv sa_111, rv b115, rv b126, rv b_146, iv 1, rv sa_186, .unset] []))
    refine go_st (fun t k => XS.aload X206.here hx rfl (hb hby at_279) rfl rfl k) ?_
    show Go _ _ _ _ (T206.setTop (mkF m 281 #[iv p0, iv p1, iv p2, iv p3, rv g_1, rv b2, rv b12, iv 1, iv c2, rv sa_111, rv b115, rv b126, rv b_146, iv 1, rv sa_186, .unset] [(.ref sa_186)]))
    refine go_st (fun t k => XS.iconst X206.here hx rfl (hb hby at_281) k) ?_
    show Go _ _ _ _ (T206.setTop (mkF m 282 #[iv p0, iv p1, iv p2, iv p3, rv g_1, rv b2, rv b12, iv 1, iv c2, rv sa_111, rv b115, rv b126, rv b_146, iv 1, rv sa_186, .unset] [(.int 3), (.ref sa_186)]))
    obtain ⟨cq207, kq207, q207a, q207b, q207c⟩ := isOf hZ186 e206 p186_2
    obtain ⟨_, _, ⟨T207, L207, kk207, nn207⟩, -, X207, ⟨Lc207, hQ207, lq207, yq207, zq207⟩, st207⟩ := X206.virtualBack hx (y := (⟨"java/lang/String", "charAt", "(I)C"⟩ : MethodName)) (z := (⟨"java/lang/String", "charAt", "(I)C"⟩ : MethodName)) hown186 (mvT hZ186 (w243 hw)) (mvT hZ186 (w244 hw)) (nf_same (y := (⟨"java/lang/String", "charAt", "(I)C"⟩ : MethodName)) (y' := (⟨"java/lang/String", "equals", "(Ljava/lang/Object;)Z"⟩ : MethodName)) (a0 := #[]) rfl (mvT hZ186 (w75 hw)) (notFace_of_selects (args := #[]) (mvT hZ186 (w76 hw)))) (mvT hZ186 (w246 hw)) (mvT hZ186 (w245 hw)) (by decide) (backOf (W := 0) (rm_chat4_3 l Z a0 hw [] sa_186 ta_186 kt_186 (c0.toInt8.toInt32) (c1.toInt8.toInt32) (32 : Int32) (nar .byte (c2.toInt8.toInt32)) fm G1 h186 n0 (Nat.le_trans Z0 sz189) p186_2 p186_3 p186_4 p186_5 hfm FS CS CSn oe188) hZ186 (w247 hw) (w11 hw) (by decide) (by decide)) q207a q207c (g := (mkF m 282 #[iv p0, iv p1, iv p2, iv p3, rv g_1, rv b2, rv b12, iv 1, iv c2, rv sa_111, rv b115, rv b126, rv b_146, iv 1, rv sa_186, .unset] [(.int 3), (.ref sa_186)])) rfl (by rw [hml]; rfl) (Steps.refl _) (argsL := [(.int 3)]) (rest := []) (lenOf pd_29 rfl) rfl (by show 2 * 0 + _ ≤ _; exact Nat.le_of_eq rfl) (hb hby at_282) (fun _ _ => ⟨rfl, e206, (by decide : 15 + 0 ≤ _), (by decide : 63 + 0 ≤ _)⟩)
    dsimp only [Pt.U, Pt.locs, Pt.cells, Pt.slots] at X207 lq207 yq207 zq207 st207 hQ207
    obtain rfl : kk207 = 15 := yq207
    obtain rfl : nn207 = 63 := zq207
    obtain ⟨h207, e207⟩ : ∃ z, T207.heap = z := ⟨_, rfl⟩
    rw [e207] at hQ207
    obtain ⟨r_207, rfl, N207q, he207, hr_207⟩ := hQ207
    have N207 : Fr n0 L207 := by rw [lq207]; exact Fr.app N206 N207q
    rw [he207] at e207
    refine go_tr st207 ?_
    show Go _ _ _ _ (T207.setTop (mkF m 285 #[iv p0, iv p1, iv p2, iv p3, rv g_1, rv b2, rv b12, iv 1, iv c2, rv sa_111, rv b115, rv b126, rv b_146, iv 1, rv sa_186, .unset] [(.int (nar .char r_207))]))
    refine go_st (fun t k => XS.iload X207.here hx rfl (hb hby at_285) rfl k) ?_
    show Go _ _ _ _ (T207.setTop (mkF m 287 #[iv p0, iv p1, iv p2, iv p3, rv g_1, rv b2, rv b12, iv 1, iv c2, rv sa_111, rv b115, rv b126, rv b_146, iv 1, rv sa_186, .unset] [(.int c2), (.int (nar .char r_207))]))
    refine go_st (fun t k => XS.icmpNo X207.here hx rfl (hb hby at_287) rfl (teq ((by rw [hr_207]; exact chat_b hc2) : (nar .char r_207) = c2)).2 k) ?_
    show Go _ _ _ _ (T207.setTop (mkF m 290 #[iv p0, iv p1, iv p2, iv p3, rv g_1, rv b2, rv b12, iv 1, iv c2, rv sa_111, rv b115, rv b126, rv b_146, iv 1, rv sa_186, .unset] []))
    refine go_st (fun t k => XS.iconst X207.here hx rfl (hb hby at_290) k) ?_
    show Go _ _ _ _ (T207.setTop (mkF m 291 #[iv p0, iv p1, iv p2, iv p3, rv g_1, rv b2, rv b12, iv 1, iv c2, rv sa_111, rv b115, rv b126, rv b_146, iv 1, rv sa_186, .unset] [(.int 1)]))
    refine go_st (fun t k => XS.goto X207.here hx rfl (pc0 := 291) (pc' := 295) rfl (hb hby at_291) (by decide) (by decide) k) ?_
    show Go _ _ _ _ (T207.setTop (mkF m 295 #[iv p0, iv p1, iv p2, iv p3, rv g_1, rv b2, rv b12, iv 1, iv c2, rv sa_111, rv b115, rv b126, rv b_146, iv 1, rv sa_186, .unset] [(.int 1)]))
    refine go_st (fun t k => XS.istore X207.here hx rfl (hb hby at_295) rfl (l' := #[iv p0, iv p1, iv p2, iv p3, rv g_1, rv b2, rv b12, iv 1, iv c2, rv sa_111, rv b115, rv b126, rv b_146, iv 1, rv sa_186, iv 1]) rfl k) ?_
    show Go _ _ _ _ (T207.setTop (mkF m 297 #[iv p0, iv p1, iv p2, iv p3, rv g_1, rv b2, rv b12, iv 1, iv c2, rv sa_111, rv b115, rv b126, rv b_146, iv 1, rv sa_186, iv 1] []))
    refine go_st (fun t k => XS.iload X207.here hx rfl (hb hby at_297) rfl k) ?_
    show Go _ _ _ _ (T207.setTop (mkF m 299 #[iv p0, iv p1, iv p2, iv p3, rv g_1, rv b2, rv b12, iv 1, iv c2, rv sa_111, rv b115, rv b126, rv b_146, iv 1, rv sa_186, iv 1] [(.int 1)]))
    refine go_st (fun t k => XS.ifNo X207.here hx rfl (hb hby at_299) rfl ((if0 _ _).trans (feq ((by decide) : ¬ ((1 : Int32) = (0 : Int32)))).1) k) ?_
    show Go _ _ _ _ (T207.setTop (mkF m 302 #[iv p0, iv p1, iv p2, iv p3, rv g_1, rv b2, rv b12, iv 1, iv c2, rv sa_111, rv b115, rv b126, rv b_146, iv 1, rv sa_186, iv 1] []))
    refine go_st (fun t k => XS.iload X207.here hx rfl (hb hby at_302) rfl k) ?_
    show Go _ _ _ _ (T207.setTop (mkF m 304 #[iv p0, iv p1, iv p2, iv p3, rv g_1, rv b2, rv b12, iv 1, iv c2, rv sa_111, rv b115, rv b126, rv b_146, iv 1, rv sa_186, iv 1] [(.int 1)]))
    refine go_st (fun t k => XS.ifNo X207.here hx rfl (hb hby at_304) rfl ((if0 _ _).trans (feq ((by decide) : ¬ ((1 : Int32) = (0 : Int32)))).1) k) ?_
    show Go _ _ _ _ (T207.setTop (mkF m 307 #[iv p0, iv p1, iv p2, iv p3, rv g_1, rv b2, rv b12, iv 1, iv c2, rv sa_111, rv b115, rv b126, rv b_146, iv 1, rv sa_186, iv 1] []))
    refine go_st (fun t k => XS.iconst X207.here hx rfl (hb hby at_307) k) ?_
    show Go _ _ _ _ (T207.setTop (mkF m 308 #[iv p0, iv p1, iv p2, iv p3, rv g_1, rv b2, rv b12, iv 1, iv c2, rv sa_111, rv b115, rv b126, rv b_146, iv 1, rv sa_186, iv 1] [(.int 1)]))
    refine go_st (fun t k => XS.goto X207.here hx rfl (pc0 := 308) (pc' := 312) rfl (hb hby at_308) (by decide) (by decide) k) ?_
    show Go _ _ _ _ (T207.setTop (mkF m 312 #[iv p0, iv p1, iv p2, iv p3, rv g_1, rv b2, rv b12, iv 1, iv c2, rv sa_111, rv b115, rv b126, rv b_146, iv 1, rv sa_186, iv 1] [(.int 1)]))
    have ke208 : Keep h0 h2 [] := (Keep.ext (Keep.refl h0 []) E2)
    have ke209 : Keep h0 h5 [] := (Keep.wr ke208 W5 (Or.inr (Nat.le_of_eq gq2.symm)))
    have ke210 : Keep h0 h8 [] := (Keep.wr ke209 W8 (Or.inr (Nat.le_of_eq gq2.symm)))
    have ke211 : Keep h0 h12 [] := (Keep.ext ke210 E12)
    have ke212 : Keep h0 h25 [] := (Keep.trans ke211 K25 (allS (Or.inr (Nat.le_trans sz23 (Nat.le_of_eq gq12.symm))) all0))
    have ke213 : Keep h0 h111 [] := (Keep.trans ke212 K111 all0)
    have ke214 : Keep h0 h115 [] := (Keep.ext ke213 E115)
    have ke215 : Keep h0 h118 [] := (Keep.wr ke214 W118 (Or.inr (Nat.le_trans sz119 (Nat.le_of_eq gq115.symm))))
    have ke216 : Keep h0 h122 [] := (Keep.wr ke215 W122 (Or.inr (Nat.le_trans sz119 (Nat.le_of_eq gq115.symm))))
    have ke217 : Keep h0 h126 [] := (Keep.ext ke216 E126)
    have ke218 : Keep h0 h141 [] := (Keep.trans ke217 K141 (allS (Or.inr (Nat.le_trans sz139 (Nat.le_of_eq gq126.symm))) all0))
    have ke219 : Keep h0 h146 [] := (Keep.trans ke218 K146 all0)
    have ke220 : Keep h0 h186 [] := (Keep.trans ke219 K186 all0)
    obtain ⟨fs, hr, hrun, hended, hR⟩ := X207.leaveW hS186 (by rw [e207]; exact (Nat.le_trans (Nat.le_refl _) (Nat.le_refl _))) (v := some (.int 1)) (fun h => by rw [Bd.returns] at h; cases h)
    refine ⟨_, _, ?_, hrun, hended, _, _, rfl, ?_, ?_, hR.1, hR.2.1, hR.2.2.1, hR.2.2.2.mono (by decide) (by decide)⟩
    · exact retN X207 hx (t := .boolean) Bd.returns (by simp) (hb hby at_312) hr
    · show Q_law _ _ _ _ _ _ _ _ _ _ _ _ _ _ _ T207.heap _
      rw [e207]
      exact ⟨rfl, N207, ke220⟩
    · show CHr Z consts_1 s.vm s.heap T207.vm T207.heap
      rw [hh, e207]
      exact CHr.trans C187 (CHv.at X207 hZ186 (hEL hw) C187.1)
set_option maxRecDepth 65536 in
set_option maxHeartbeats 40000000 in
theorem comes_1 {Post : Tables → Env → Array Value → State → Outcome → State → Prop} (hpost : ∀ tb e args s v u, (limb_1_1.after args s (.returned v) u = true ∧ limb_1_2.after args s (.returned v) u = true ∧ True) → ReturnedEndW s (.returned v) u (Jvm.fieldLocs frame_1_writes args s ++ Jvm.arrayLocs frame_1_arrays args s ++ Jvm.staticLocs frame_1_statics s) 40 2240 → Post tb e args s (.returned v) u) :
    ArmFor flags0 classFile x code maxLocals ret World_1 tables_1 room_1 Calls_1 rest_1 Pre_1 Post := by
  intro l hfl _ _ p e ha hc hk s m args below hf hA hF happ hP
  obtain ⟨hcalls, hrest, hpre⟩ := hP
  obtain ⟨-, -, -, hnamed, -, -, -, hat⟩ := (Spec.applies_iff hf).mp happ
  obtain ⟨hg, hn⟩ := and_e (Cond.before_iff.mp (show (Jvm.Cond.and given_1 narrow_1).before args s = true from hpre))
  obtain ⟨hcnt, ha0⟩ := and_e hg
  obtain ⟨gi0, ha1⟩ := and_e ha0
  obtain ⟨gi1, ha2⟩ := and_e ha1
  obtain ⟨gi2, ha3⟩ := and_e ha2
  have gi3 := ha3
  obtain ⟨w0_, w1_, w2_, w3_, rfl⟩ : ∃ w0_ w1_ w2_ w3_ : Value, args = #[w0_, w1_, w2_, w3_] := by
    have hs : args.size = 4 := by simpa [Cond.value, given_1] using hcnt
    obtain ⟨L⟩ := args
    match L, hs with
    | [w0_, w1_, w2_, w3_], _ => exact ⟨w0_, w1_, w2_, w3_, rfl⟩
  have hw := fun d (hd : d ∈ tables_1) => atoms_spec (ws := Jvm.Cond.code x code maxLocals ret :: tables_1) hat d (List.mem_cons_of_mem _ hd)
  have hfit : Fit s := fun {y c} hc i hi => by
    obtain ⟨ha, rfl⟩ := Array.getElem?_eq_some_iff.mp hc
    have q := List.all_eq_true.mp ((Array.all_eq_true_iff_forall_mem.mp hF) _ (Array.getElem_mem ha)) i (List.mem_range.mpr hi)
    simpa [Array.getElem?_eq_getElem hi] using q
  obtain ⟨hsets, hown0⟩ := atoms_of _ (rest_1_c_eq ▸ (show rest_1_c.before _ s = true from hrest))
  obtain ⟨i0, ei0⟩ := is_v gi0
  obtain rfl : w0_ = (.int i0) := Option.some.inj ei0
  obtain ⟨i1, ei1⟩ := is_v gi1
  obtain rfl : w1_ = (.int i1) := Option.some.inj ei1
  obtain ⟨i2, ei2⟩ := is_v gi2
  obtain rfl : w2_ = (.int i2) := Option.some.inj ei2
  obtain ⟨i3, ei3⟩ := is_v gi3
  obtain rfl : w3_ = (.int i3) := Option.some.inj ei3
  have n3 := not_v (Cond.before_iff.mp (hsets _ (List.mem_of_getElem? (i := 2) rfl)))
  obtain ⟨G1, e6⟩ := is_v (Cond.before_iff.mp (hsets _ (List.mem_of_getElem? (i := 1) rfl)))
  have CS : Sta s s.heap "java/lang/String" "COMPACT_STRINGS" "Z" (.int G1) := Sta.start e6 (Or.inl (hsets _ (List.mem_of_getElem? (i := 0) rfl)))
  have CSn : ¬ (G1 = (0 : Int32)) := gotF (Cond.eq_ints e6 (Term.int_eval (0))) n3
  obtain ⟨hx0, hy0⟩ := and_e hn
  obtain ⟨g0, eg0⟩ := exa_v hx0
  have GS0 : Sta s s.heap "com/example/tuplet/tuplet/Commands$Kind" "FLAG" "Lcom/example/tuplet/tuplet/Commands$Kind;" (.ref g0) := Sta.start eg0 (Or.inr ⟨(w6 hw), (w7 hw)⟩)
  obtain ⟨hx1, hy1⟩ := and_e hy0
  obtain ⟨g2, eg2⟩ := exa_v hx1
  have GS2 : Sta s s.heap "com/example/tuplet/tuplet/Commands$Kind" "INTEGER" "Lcom/example/tuplet/tuplet/Commands$Kind;" (.ref g2) := Sta.start eg2 (Or.inr ⟨(w6 hw), (w114 hw)⟩)
  obtain ⟨hx2, hy2⟩ := and_e hy1
  obtain ⟨g4, eg4⟩ := exa_v hx2
  have GS4 : Sta s s.heap "com/example/tuplet/tuplet/Commands$Kind" "LIST" "Lcom/example/tuplet/tuplet/Commands$Kind;" (.ref g4) := Sta.start eg4 (Or.inr ⟨(w6 hw), (w116 hw)⟩)
  obtain ⟨hx3, hy3⟩ := and_e hy2
  obtain ⟨g1, eg1⟩ := exa_v hx3
  have GS1 : Sta s s.heap "com/example/tuplet/tuplet/Commands$Kind" "TEXT" "Lcom/example/tuplet/tuplet/Commands$Kind;" (.ref g1) := Sta.start eg1 (Or.inr ⟨(w6 hw), (w265 hw)⟩)
  obtain ⟨g3, eg3⟩ := exa_v hy3
  have GS3 : Sta s s.heap "com/example/tuplet/tuplet/Commands$Kind" "PATH" "Lcom/example/tuplet/tuplet/Commands$Kind;" (.ref g3) := Sta.start eg3 (Or.inr ⟨(w6 hw), (w267 hw)⟩)
  obtain ⟨fm, efm, hfm⟩ := isR_v (Cond.before_iff.mp (hsets _ (List.mem_of_getElem? (i := 8) rfl)))
  have FS : Sta s s.heap "jdk/internal/util/Preconditions" "SIOOBE_FORMATTER" "Ljava/util/function/BiFunction;" fm := Sta.start efm (Or.inl (hsets _ (List.mem_of_getElem? (i := 7) rfl)))
  obtain ⟨n, o, h1, h2, h3, _, L, rfl, ⟨rfl, N, -⟩, -, hq⟩ := rm_law l s _ hw tables_1 i0 i1 i2 i3 G1 g0 g1 g2 g3 g4 fm s.heap s.heap.size (Nat.le_refl _) CS CSn GS0 GS1 GS2 GS3 GS4 hfm FS (Old.start s) p e ha hc hk s m _ below hf ((Spec.applies_iff_loose hf).mp happ).1 ⟨rfl, State.Warmed39.refl s, rfl, CHv.start (hEL hw) hcalls.1 (hsets _ (List.mem_of_getElem? (i := 2) rfl)) (w27 hw) (w10 hw)⟩ trivial
  refine ⟨n, _, h1, h2, h3, hpost _ _ _ _ _ _ ⟨Cond.after_iff.mpr rfl, Cond.after_iff.mpr (eq_i res_at (Term.int_eval (1)) rfl), trivial⟩ ⟨hq.1, hq.2.1, hq.2.2.1, (hq.2.2.2.sift fun y hy => Or.inr (N y hy)).mono (by decide) (by decide)⟩⟩
theorem main_1_1 : Claimed_1_1 := comes_1 fun _ _ _ _ _ _ h hF => ⟨h.1, hF⟩
theorem main_1_2 : Claimed_1_2 := comes_1 fun _ _ _ _ _ _ h hF => ⟨h.2.1, hF⟩
end Jvm.Pilot.@@N@@
namespace Jvm.Pilot.@@N@@
open Jvm Jvm.ClassFile Sem Op Lib Jvm.Free Jvm.Stand Jvm.Pilot.@@N@@.Jvm.D
/-! MADE BY PROGRAM (witnessworld.py) out of the Statement's table words and the real class files: 29 classes; the members and pool entries that the words name. The judged class is class 1, her method 2. -/
namespace start1
open Jvm.ClassFile
def u (s : String) : CpInfo := .utf8 (stringToUtf16 s)
/-- a pool by its gaps: so many unusable entries, then the entry; so many at the end -/
def gap : Nat → List CpInfo → List CpInfo
  | 0, r => r
  | n + 1, r => .unusable :: gap n r
def poolList (es : List (Nat × CpInfo)) (last : Nat) : List CpInfo := es.foldr (fun e r => gap e.1 (e.2 :: r)) (gap last [])
def pool (es : List (Nat × CpInfo)) (last : Nat) : Array CpInfo := ⟨poolList es last⟩
def fileOf (pool : Array CpInfo) (this : Nat) (attrs : Array Attribute := #[]) (ms : Array MethodInfo := #[]) (fl : Nat := 33) (sup : Nat := 0) (ifs : Array Nat := #[]) (fds : Array FieldInfo := #[]) : ClassFile where
  minorVersion := 0
  majorVersion := 65
  constantPool := pool
  accessFlags := fl
  thisClass := this
  superClass := sup
  interfaces := ifs
  fields := fds
  methods := ms
  attributes := attrs
def plain (name : String) (sup : Option ClassId) : Class where
  name := name
  kind := .ordinary
  loader := none
  accessFlags := 33
  super := sup
  interfaces := #[]
  cf := none
  fields := #[]
  methods := #[]
  instanceTypes := #[]
  staticTypes := #[]
  resolved := #[]
  callSites := []
  init := .initialized
  statics := none
  mirror := none

def pool0 : Array CpInfo := pool [(5, u "<init>"), (0, u "()V"), (1, .class_ 10), (1, u "java/lang/Object")] 113

def k0c0 : Code := { maxStack := 0, maxLocals := 1, code := object_method_1_code, exceptionTable := #[], attributes := #[] }
def k0m0 : Method := { name := "<init>", desc := "()V", sig := { parameters := [], returnType := none }, accessFlags := 1, code := some k0c0 }
/-- java/lang/Object -/
def k0 : Class := { plain "java/lang/Object" none with
  accessFlags := 33
  interfaces := #[]
  cf := some (fileOf pool0 8 #[] #[{ accessFlags := 1, nameIndex := 5, descriptorIndex := 6, attributes := #[] }] 33 0 #[] #[])
  fields := #[]
  methods := #[k0m0]
  instanceTypes := #[]
  staticTypes := #[]
  resolved := Array.replicate 124 none
  statics := none }

def pool1 : Array CpInfo := pool [(2, .class_ 4), (1, u "java/lang/Object"), (0, u "<init>"), (0, u "()V"), (0, .integer 2147483647), (0, .fieldref 9 10), (0, .class_ 11), (0, .nameAndType 12 13), (0, u "com/example/tuplet/tuplet/Commands$Kind"), (0, u "FLAG"), (0, u "Lcom/example/tuplet/tuplet/Commands$Kind;"), (0, .fieldref 9 15), (0, .nameAndType 16 13), (0, u "TEXT"), (0, .fieldref 9 18), (0, .nameAndType 19 13), (0, u "INTEGER"), (0, .fieldref 9 21), (0, .nameAndType 22 13), (0, u "PATH"), (0, .fieldref 9 24), (0, .nameAndType 25 13), (0, u "LIST"), (0, .methodref 27 28), (0, .class_ 29), (0, .nameAndType 30 31), (0, u "com/example/tuplet/tuplet/OptionOfPinLaw"), (0, u "kindOf"), (0, u "(I)Lcom/example/tuplet/tuplet/Commands$Kind;"), (0, .class_ 33), (0, u "java/lang/String"), (0, .methodref 32 35), (0, .nameAndType 5 36), (0, u "([C)V"), (0, .methodref 32 38), (0, .nameAndType 39 40), (0, u "valueOf"), (0, u "(C)Ljava/lang/String;"), (0, .string 42), (0, u ""), (0, .methodref 44 45), (0, .class_ 46), (0, .nameAndType 47 48), (0, u "com/example/tuplet/tuplet/Commands$Option"), (0, u "of"), (0, u "(Ljava/lang/String;Lcom/example/tuplet/tuplet/Commands$Kind;Ljava/lang/String;Ljava/lang/String;)Lcom/example/tuplet/tuplet/Commands$Option;"), (0, .methodref 44 50), (0, .nameAndType 51 52), (0, u "name"), (0, u "()Ljava/lang/String;"), (0, .methodref 32 54), (0, .nameAndType 55 56), (0, u "equals"), (0, u "(Ljava/lang/Object;)Z"), (0, .methodref 44 58), (0, .nameAndType 59 60), (0, u "kind"), (0, u "()Lcom/example/tuplet/tuplet/Commands$Kind;"), (0, .methodref 44 62), (0, .nameAndType 63 52), (0, u "label"), (0, .methodref 44 65), (0, .nameAndType 66 52), (0, u "help"), (0, .methodref 44 68), (0, .nameAndType 69 70), (0, u "required"), (0, u "()Z"), (0, .methodref 44 72), (0, .nameAndType 73 52), (0, u "byDefault"), (0, .methodref 44 75), (0, .nameAndType 76 52), (0, u "shown"), (0, .methodref 32 78), (0, .nameAndType 79 80), (0, u "length"), (0, u "()I"), (0, .methodref 32 82), (0, .nameAndType 83 84), (0, u "charAt"), (0, u "(I)C"), (3, u "law"), (0, u "(IIII)Z")] 9

def k1m0 : Method := { name := "<init>", desc := "()V", sig := { parameters := [], returnType := none }, accessFlags := 1, code := none }
def k1c1 : Code := { maxStack := 2, maxLocals := 2, code := method_2_code, exceptionTable := #[], attributes := #[] }
def k1m1 : Method := { name := "kindOf", desc := "(I)Lcom/example/tuplet/tuplet/Commands$Kind;", sig := { parameters := [.int], returnType := some (.object "com/example/tuplet/tuplet/Commands$Kind") }, accessFlags := 10, code := some k1c1 }
def k1c2 : Code := { maxStack := 4, maxLocals := 16, code := code, exceptionTable := #[], attributes := #[] }
def k1m2 : Method := { name := "law", desc := "(IIII)Z", sig := { parameters := [.int, .int, .int, .int], returnType := some .boolean }, accessFlags := 9, code := some k1c2 }
/-- com/example/tuplet/tuplet/OptionOfPinLaw -/
def k1 : Class := { plain "com/example/tuplet/tuplet/OptionOfPinLaw" (some 0) with
  accessFlags := 49
  interfaces := #[]
  cf := some (fileOf pool1 27 #[] #[{ accessFlags := 1, nameIndex := 5, descriptorIndex := 6, attributes := #[] }, { accessFlags := 10, nameIndex := 30, descriptorIndex := 31, attributes := #[] }, { accessFlags := 9, nameIndex := 88, descriptorIndex := 89, attributes := #[] }] 49 2 #[] #[])
  fields := #[]
  methods := #[k1m0, k1m1, k1m2]
  instanceTypes := #[]
  staticTypes := #[]
  resolved := Array.replicate 99 none
  statics := none }

def pool2 : Array CpInfo := pool [(1, .class_ 2), (0, u "java/lang/constant/Constable"), (0, .class_ 4), (0, u "java/lang/Object")] 6

/-- java/lang/constant/Constable -/
def k2 : Class := { plain "java/lang/constant/Constable" (some 0) with
  accessFlags := 1537
  interfaces := #[]
  cf := some (fileOf pool2 1 #[] #[] 1537 3 #[] #[])
  fields := #[]
  methods := #[]
  instanceTypes := #[]
  staticTypes := #[]
  resolved := Array.replicate 11 none
  statics := none }

def pool3 : Array CpInfo := pool [(1, .class_ 2), (0, u "java/lang/Comparable"), (0, .class_ 4), (0, u "java/lang/Object")] 7

/-- java/lang/Comparable -/
def k3 : Class := { plain "java/lang/Comparable" (some 0) with
  accessFlags := 1537
  interfaces := #[]
  cf := some (fileOf pool3 1 #[] #[] 1537 3 #[] #[])
  fields := #[]
  methods := #[]
  instanceTypes := #[]
  staticTypes := #[]
  resolved := Array.replicate 12 none
  statics := none }

def pool4 : Array CpInfo := pool [(1, .class_ 2), (0, u "java/io/Serializable"), (0, .class_ 4), (0, u "java/lang/Object")] 2

/-- java/io/Serializable -/
def k4 : Class := { plain "java/io/Serializable" (some 0) with
  accessFlags := 1537
  interfaces := #[]
  cf := some (fileOf pool4 1 #[] #[] 1537 3 #[] #[])
  fields := #[]
  methods := #[]
  instanceTypes := #[]
  staticTypes := #[]
  resolved := Array.replicate 7 none
  statics := none }

def pool5 : Array CpInfo := pool [(2, .class_ 4), (1, u "java/lang/Enum"), (0, u "name"), (0, u "Ljava/lang/String;"), (2, u "ordinal"), (0, u "I"), (1, .class_ 14), (1, u "java/lang/Object"), (4, u "hash"), (86, .class_ 108), (1, u "java/lang/Enum$EnumDesc"), (2, .class_ 112), (0, u "java/lang/constant/Constable"), (0, .class_ 114), (0, u "java/lang/Comparable"), (0, .class_ 116), (0, u "java/io/Serializable")] 87

/-- java/lang/Enum -/
def k5 : Class := { plain "java/lang/Enum" (some 0) with
  accessFlags := 1057
  interfaces := #[2, 3, 4]
  cf := some (fileOf pool5 2 #[.nestMembers #[106]] #[] 1057 12 #[111, 113, 115] #[{ accessFlags := 18, nameIndex := 5, descriptorIndex := 6, attributes := #[] }, { accessFlags := 18, nameIndex := 9, descriptorIndex := 10, attributes := #[] }, { accessFlags := 2, nameIndex := 19, descriptorIndex := 10, attributes := #[] }])
  fields := #[{ name := "name", type := (.object "java/lang/String"), accessFlags := 18, slot := 0, constantValue := 0 }, { name := "ordinal", type := .int, accessFlags := 18, slot := 1, constantValue := 0 }, { name := "hash", type := .int, accessFlags := 2, slot := 2, constantValue := 0 }]
  methods := #[]
  instanceTypes := #[(.object "java/lang/String"), .int, .int]
  staticTypes := #[]
  resolved := Array.replicate 204 none
  statics := none }

def pool6 : Array CpInfo := pool [(1, .class_ 2), (0, u "com/example/tuplet/tuplet/Commands$Kind"), (2, u "FLAG"), (0, u "Lcom/example/tuplet/tuplet/Commands$Kind;"), (2, u "TEXT"), (2, u "INTEGER"), (2, u "PATH"), (2, u "LIST"), (2, u "$VALUES"), (0, u "[Lcom/example/tuplet/tuplet/Commands$Kind;"), (6, .class_ 31), (1, u "java/lang/Enum"), (28, .class_ 61), (0, u "com/example/tuplet/tuplet/Commands")] 2

/-- com/example/tuplet/tuplet/Commands$Kind -/
def k6 : Class := { plain "com/example/tuplet/tuplet/Commands$Kind" (some 5) with
  accessFlags := 16432
  interfaces := #[]
  cf := some (fileOf pool6 1 #[.nestHost 60] #[] 16432 29 #[] #[{ accessFlags := 16409, nameIndex := 5, descriptorIndex := 6, attributes := #[] }, { accessFlags := 16409, nameIndex := 9, descriptorIndex := 6, attributes := #[] }, { accessFlags := 16409, nameIndex := 12, descriptorIndex := 6, attributes := #[] }, { accessFlags := 16409, nameIndex := 15, descriptorIndex := 6, attributes := #[] }, { accessFlags := 16409, nameIndex := 18, descriptorIndex := 6, attributes := #[] }, { accessFlags := 4122, nameIndex := 21, descriptorIndex := 22, attributes := #[] }])
  fields := #[{ name := "FLAG", type := (.object "com/example/tuplet/tuplet/Commands$Kind"), accessFlags := 16409, slot := 0, constantValue := 0 }, { name := "TEXT", type := (.object "com/example/tuplet/tuplet/Commands$Kind"), accessFlags := 16409, slot := 1, constantValue := 0 }, { name := "INTEGER", type := (.object "com/example/tuplet/tuplet/Commands$Kind"), accessFlags := 16409, slot := 2, constantValue := 0 }, { name := "PATH", type := (.object "com/example/tuplet/tuplet/Commands$Kind"), accessFlags := 16409, slot := 3, constantValue := 0 }, { name := "LIST", type := (.object "com/example/tuplet/tuplet/Commands$Kind"), accessFlags := 16409, slot := 4, constantValue := 0 }, { name := "$VALUES", type := (.array (.object "com/example/tuplet/tuplet/Commands$Kind")), accessFlags := 4122, slot := 5, constantValue := 0 }]
  methods := #[]
  instanceTypes := #[(.object "java/lang/String"), .int, .int]
  staticTypes := #[(.object "com/example/tuplet/tuplet/Commands$Kind"), (.object "com/example/tuplet/tuplet/Commands$Kind"), (.object "com/example/tuplet/tuplet/Commands$Kind"), (.object "com/example/tuplet/tuplet/Commands$Kind"), (.object "com/example/tuplet/tuplet/Commands$Kind"), (.array (.object "com/example/tuplet/tuplet/Commands$Kind"))]
  resolved := Array.replicate 64 none
  statics := some 0 }

def pool7 : Array CpInfo := pool [(2, .class_ 4), (1, u "java/lang/CharSequence"), (42, .class_ 48), (0, u "java/lang/CharSequence$1CodePointIterator"), (10, .class_ 60), (0, u "java/lang/CharSequence$1CharIterator"), (5, .class_ 67), (0, u "java/lang/Object")] 63

/-- java/lang/CharSequence -/
def k7 : Class := { plain "java/lang/CharSequence" (some 0) with
  accessFlags := 1537
  interfaces := #[]
  cf := some (fileOf pool7 2 #[.nestMembers #[47, 59]] #[] 1537 66 #[] #[])
  fields := #[]
  methods := #[]
  instanceTypes := #[]
  staticTypes := #[]
  resolved := Array.replicate 131 none
  statics := none }

def pool8 : Array CpInfo := pool [(1, .class_ 2), (0, u "java/lang/constant/ConstantDesc"), (0, .class_ 4), (0, u "java/lang/Object")] 32

/-- java/lang/constant/ConstantDesc -/
def k8 : Class := { plain "java/lang/constant/ConstantDesc" (some 0) with
  accessFlags := 1537
  interfaces := #[]
  cf := some (fileOf pool8 1 #[] #[] 1537 3 #[] #[])
  fields := #[]
  methods := #[]
  instanceTypes := #[]
  staticTypes := #[]
  resolved := Array.replicate 37 none
  statics := none }

def pool9 : Array CpInfo := pool [(1, .methodref 2 3), (0, .class_ 4), (0, .nameAndType 5 6), (0, u "java/lang/Object"), (0, u "<init>"), (0, u "()V"), (2, .fieldref 10 11), (0, .class_ 12), (0, .nameAndType 13 14), (0, u "java/lang/String"), (0, u "value"), (0, u "[B"), (0, .fieldref 10 16), (0, .nameAndType 17 18), (0, u "coder"), (0, u "B"), (2, u "hash"), (0, u "I"), (2, u "hashIsZero"), (0, u "Z"), (0, .methodref 10 28), (0, .nameAndType 5 29), (0, u "([CIILjava/lang/Void;)V"), (8, .fieldref 10 39), (0, .nameAndType 40 26), (0, u "COMPACT_STRINGS"), (1, .class_ 44), (1, u "java/lang/StringUTF16"), (0, u "compress"), (1, .methodref 42 48), (0, .nameAndType 49 50), (0, u "coderFromArrayLen"), (0, u "([BI)B"), (2, u "toBytes"), (0, .methodref 55 56), (0, .class_ 57), (0, .nameAndType 58 59), (0, u "java/util/Arrays"), (0, u "copyOfRange"), (0, u "([BII)[B"), (47, .class_ 109), (1, u "java/lang/StringLatin1"), (32, u "()Z"), (34, .methodref 42 178), (0, .nameAndType 45 179), (0, u "([CII)[B"), (13, .class_ 195), (1, u "java/lang/System"), (13, .methodref 10 210), (0, .nameAndType 5 211), (0, u "([BB)V"), (0, .methodref 193 213), (0, .nameAndType 214 215), (0, u "arraycopy"), (0, u "(Ljava/lang/Object;ILjava/lang/Object;II)V"), (118, u "()I"), (0, .methodref 10 336), (0, .nameAndType 17 337), (0, u "()B"), (2, u "()[B"), (22, u "([BI)C"), (5, u "(C)Z"), (21, u "(II)V"), (35, u "(I)C"), (61, .methodref 10 490), (0, .nameAndType 5 491), (0, u "(Ljava/lang/AbstractStringBuilder;Ljava/lang/Void;)V"), (0, .methodref 10 493), (0, .nameAndType 494 142), (0, u "isLatin1"), (0, .methodref 107 496), (0, .nameAndType 497 363), (0, u "charAt"), (3, u "checkIndex"), (4, .nameAndType 507 334), (0, u "length"), (24, u "getBytes"), (10, u "equals"), (5, .methodref 550 506), (0, .class_ 551), (0, u "java/lang/AbstractStringBuilder"), (0, .methodref 550 553), (0, .nameAndType 554 340), (0, u "getValue"), (18, u "(Ljava/lang/Object;)Z"), (1, .class_ 576), (0, u "java/lang/CharSequence"), (22, u "CASE_INSENSITIVE_ORDER"), (0, u "Ljava/util/Comparator;"), (91, u "isEmpty"), (89, u "valueOf"), (0, u "(C)Ljava/lang/String;"), (37, u "([BIB)V"), (188, u "([C)V"), (4, .methodref 107 1016), (0, .nameAndType 1017 369), (0, u "canEncode"), (0, .methodref 107 1019), (0, .nameAndType 53 1020), (0, u "(C)[B"), (26, .methodref 550 493), (5, .fieldref 1054 1055), (0, .class_ 1056), (0, .nameAndType 1057 1058), (0, u "jdk/internal/util/Preconditions"), (0, u "SIOOBE_FORMATTER"), (0, u "Ljava/util/function/BiFunction;"), (0, .methodref 1054 1060), (0, .nameAndType 501 1061), (0, u "(IILjava/util/function/BiFunction;)I"), (39, u "serialPersistentFields"), (0, u "[Ljava/io/ObjectStreamField;"), (0, .class_ 1104), (0, u "java/lang/String$CaseInsensitiveComparator"), (1, .class_ 1107), (0, u "java/io/Serializable"), (0, .class_ 1109), (0, u "java/lang/Comparable"), (0, .class_ 1111), (0, u "java/lang/constant/Constable"), (0, .class_ 1113), (0, u "java/lang/constant/ConstantDesc"), (2, u "serialVersionUID"), (0, u "J"), (3, u "REPL"), (0, u "C"), (2, u "LATIN1"), (1, u "UTF16"), (105, u "(Ljava/lang/StringBuilder;)V")] 217

def k9m0 : Method := { name := "<init>", desc := "()V", sig := { parameters := [], returnType := none }, accessFlags := 1, code := none }
def k9c1 : Code := { maxStack := 5, maxLocals := 2, code := jdk_42_method_3_code, exceptionTable := #[], attributes := #[] }
def k9m1 : Method := { name := "<init>", desc := "([C)V", sig := { parameters := [(.array .char)], returnType := none }, accessFlags := 1, code := some k9c1 }
def k9c2 : Code := { maxStack := 3, maxLocals := 2, code := jdk_42_method_53_code, exceptionTable := #[], attributes := #[] }
def k9m2 : Method := { name := "<init>", desc := "(Ljava/lang/StringBuilder;)V", sig := { parameters := [(.object "java/lang/StringBuilder")], returnType := none }, accessFlags := 1, code := some k9c2 }
def k9c3 : Code := { maxStack := 2, maxLocals := 1, code := jdk_42_method_54_code, exceptionTable := #[], attributes := #[] }
def k9m3 : Method := { name := "length", desc := "()I", sig := { parameters := [], returnType := some .int }, accessFlags := 1, code := some k9c3 }
def k9c4 : Code := { maxStack := 1, maxLocals := 1, code := jdk_42_method_55_code, exceptionTable := #[], attributes := #[] }
def k9m4 : Method := { name := "isEmpty", desc := "()Z", sig := { parameters := [], returnType := some .boolean }, accessFlags := 1, code := some k9c4 }
def k9c5 : Code := { maxStack := 2, maxLocals := 2, code := jdk_42_method_56_code, exceptionTable := #[], attributes := #[] }
def k9m5 : Method := { name := "charAt", desc := "(I)C", sig := { parameters := [.int], returnType := some .char }, accessFlags := 1, code := some k9c5 }
def k9c6 : Code := { maxStack := 2, maxLocals := 3, code := jdk_42_method_66_code, exceptionTable := #[], attributes := #[] }
def k9m6 : Method := { name := "equals", desc := "(Ljava/lang/Object;)Z", sig := { parameters := [(.object "java/lang/Object")], returnType := some .boolean }, accessFlags := 1, code := some k9c6 }
def k9c7 : Code := { maxStack := 4, maxLocals := 1, code := jdk_42_method_139_code, exceptionTable := #[], attributes := #[] }
def k9m7 : Method := { name := "valueOf", desc := "(C)Ljava/lang/String;", sig := { parameters := [.char], returnType := some (.object "java/lang/String") }, accessFlags := 9, code := some k9c7 }
def k9c8 : Code := { maxStack := 5, maxLocals := 4, code := jdk_42_method_147_code, exceptionTable := #[], attributes := #[] }
def k9m8 : Method := { name := "getBytes", desc := "([BIB)V", sig := { parameters := [(.array .byte), .int, .byte], returnType := none }, accessFlags := 0, code := some k9c8 }
def k9c9 : Code := { maxStack := 4, maxLocals := 6, code := jdk_42_method_149_code, exceptionTable := #[], attributes := #[] }
def k9m9 : Method := { name := "<init>", desc := "([CIILjava/lang/Void;)V", sig := { parameters := [(.array .char), .int, .int, (.object "java/lang/Void")], returnType := none }, accessFlags := 2, code := some k9c9 }
def k9c10 : Code := { maxStack := 5, maxLocals := 5, code := jdk_42_method_150_code, exceptionTable := #[], attributes := #[] }
def k9m10 : Method := { name := "<init>", desc := "(Ljava/lang/AbstractStringBuilder;Ljava/lang/Void;)V", sig := { parameters := [(.object "java/lang/AbstractStringBuilder"), (.object "java/lang/Void")], returnType := none }, accessFlags := 0, code := some k9c10 }
def k9c11 : Code := { maxStack := 2, maxLocals := 3, code := jdk_42_method_151_code, exceptionTable := #[], attributes := #[] }
def k9m11 : Method := { name := "<init>", desc := "([BB)V", sig := { parameters := [(.array .byte), .byte], returnType := none }, accessFlags := 0, code := some k9c11 }
def k9c12 : Code := { maxStack := 1, maxLocals := 1, code := jdk_42_method_152_code, exceptionTable := #[], attributes := #[] }
def k9m12 : Method := { name := "coder", desc := "()B", sig := { parameters := [], returnType := some .byte }, accessFlags := 0, code := some k9c12 }
def k9c13 : Code := { maxStack := 1, maxLocals := 1, code := jdk_42_method_154_code, exceptionTable := #[], attributes := #[] }
def k9m13 : Method := { name := "isLatin1", desc := "()Z", sig := { parameters := [], returnType := some .boolean }, accessFlags := 0, code := some k9c13 }
def k9c14 : Code := { maxStack := 3, maxLocals := 2, code := jdk_42_method_155_code, exceptionTable := #[], attributes := #[] }
def k9m14 : Method := { name := "checkIndex", desc := "(II)V", sig := { parameters := [.int, .int], returnType := none }, accessFlags := 8, code := some k9c14 }
/-- java/lang/String -/
def k9 : Class := { plain "java/lang/String" (some 0) with
  accessFlags := 49
  interfaces := #[4, 3, 7, 2, 8]
  cf := some (fileOf pool9 10 #[.nestMembers #[1103]] #[{ accessFlags := 1, nameIndex := 5, descriptorIndex := 6, attributes := #[] }, { accessFlags := 1, nameIndex := 5, descriptorIndex := 1010, attributes := #[] }, { accessFlags := 1, nameIndex := 5, descriptorIndex := 1233, attributes := #[] }, { accessFlags := 1, nameIndex := 507, descriptorIndex := 334, attributes := #[] }, { accessFlags := 1, nameIndex := 692, descriptorIndex := 142, attributes := #[] }, { accessFlags := 1, nameIndex := 497, descriptorIndex := 427, attributes := #[] }, { accessFlags := 1, nameIndex := 543, descriptorIndex := 573, attributes := #[] }, { accessFlags := 9, nameIndex := 782, descriptorIndex := 783, attributes := #[] }, { accessFlags := 0, nameIndex := 532, descriptorIndex := 821, attributes := #[] }, { accessFlags := 2, nameIndex := 5, descriptorIndex := 29, attributes := #[] }, { accessFlags := 0, nameIndex := 5, descriptorIndex := 491, attributes := #[] }, { accessFlags := 0, nameIndex := 5, descriptorIndex := 211, attributes := #[] }, { accessFlags := 0, nameIndex := 17, descriptorIndex := 337, attributes := #[] }, { accessFlags := 0, nameIndex := 494, descriptorIndex := 142, attributes := #[] }, { accessFlags := 8, nameIndex := 501, descriptorIndex := 391, attributes := #[] }] 49 2 #[1106, 1108, 575, 1110, 1112] #[{ accessFlags := 18, nameIndex := 13, descriptorIndex := 14, attributes := #[] }, { accessFlags := 18, nameIndex := 17, descriptorIndex := 18, attributes := #[] }, { accessFlags := 2, nameIndex := 21, descriptorIndex := 22, attributes := #[] }, { accessFlags := 2, nameIndex := 25, descriptorIndex := 26, attributes := #[] }, { accessFlags := 26, nameIndex := 1116, descriptorIndex := 1117, attributes := #[] }, { accessFlags := 24, nameIndex := 40, descriptorIndex := 26, attributes := #[] }, { accessFlags := 26, nameIndex := 1101, descriptorIndex := 1102, attributes := #[] }, { accessFlags := 26, nameIndex := 1121, descriptorIndex := 1122, attributes := #[] }, { accessFlags := 25, nameIndex := 599, descriptorIndex := 600, attributes := #[] }, { accessFlags := 24, nameIndex := 1125, descriptorIndex := 18, attributes := #[] }, { accessFlags := 24, nameIndex := 1127, descriptorIndex := 18, attributes := #[] }])
  fields := #[{ name := "value", type := (.array .byte), accessFlags := 18, slot := 0, constantValue := 0 }, { name := "coder", type := .byte, accessFlags := 18, slot := 1, constantValue := 0 }, { name := "hash", type := .int, accessFlags := 2, slot := 2, constantValue := 0 }, { name := "hashIsZero", type := .boolean, accessFlags := 2, slot := 3, constantValue := 0 }, { name := "serialVersionUID", type := .long, accessFlags := 26, slot := 0, constantValue := 0 }, { name := "COMPACT_STRINGS", type := .boolean, accessFlags := 24, slot := 1, constantValue := 0 }, { name := "serialPersistentFields", type := (.array (.object "java/io/ObjectStreamField")), accessFlags := 26, slot := 2, constantValue := 0 }, { name := "REPL", type := .char, accessFlags := 26, slot := 3, constantValue := 0 }, { name := "CASE_INSENSITIVE_ORDER", type := (.object "java/util/Comparator"), accessFlags := 25, slot := 4, constantValue := 0 }, { name := "LATIN1", type := .byte, accessFlags := 24, slot := 5, constantValue := 0 }, { name := "UTF16", type := .byte, accessFlags := 24, slot := 6, constantValue := 0 }]
  methods := #[k9m0, k9m1, k9m2, k9m3, k9m4, k9m5, k9m6, k9m7, k9m8, k9m9, k9m10, k9m11, k9m12, k9m13, k9m14]
  instanceTypes := #[(.array .byte), .byte, .int, .boolean]
  staticTypes := #[.long, .boolean, (.array (.object "java/io/ObjectStreamField")), .char, (.object "java/util/Comparator"), .byte, .byte]
  resolved := Array.replicate 1451 none
  statics := some 1 }

def pool10 : Array CpInfo := pool [(6, .class_ 8), (1, u "java/lang/Object"), (0, u "<init>"), (0, u "()V"), (1, .class_ 14), (1, u "java/lang/StringUTF16"), (31, u "$assertionsDisabled"), (0, u "Z"), (13, u "HI_BYTE_SHIFT"), (0, u "I"), (2, u "LO_BYTE_SHIFT"), (49, .methodref 12 116), (0, .nameAndType 117 118), (0, u "compress"), (0, u "([CI[BII)I"), (3, u "([CII)[B"), (138, u "coderFromArrayLen"), (0, u "([BI)B"), (106, .class_ 371), (1, u "java/lang/StringUTF16$LinesSpliterator"), (58, u "MAX_LENGTH"), (196, .class_ 628), (0, u "java/lang/StringUTF16$CodePointsSpliterator"), (0, .class_ 630), (0, u "java/lang/StringUTF16$CharsSpliterator")] 4

def k10m0 : Method := { name := "<init>", desc := "()V", sig := { parameters := [], returnType := none }, accessFlags := 0, code := none }
def k10c1 : Code := { maxStack := 2, maxLocals := 2, code := jdk_52_method_15_code, exceptionTable := #[], attributes := #[] }
def k10m1 : Method := { name := "coderFromArrayLen", desc := "([BI)B", sig := { parameters := [(.array .byte), .int], returnType := some .byte }, accessFlags := 8, code := some k10c1 }
def k10c2 : Code := { maxStack := 5, maxLocals := 6, code := jdk_52_method_16_code, exceptionTable := #[], attributes := #[] }
def k10m2 : Method := { name := "compress", desc := "([CII)[B", sig := { parameters := [(.array .char), .int, .int], returnType := some (.array .byte) }, accessFlags := 9, code := some k10c2 }
def k10c3 : Code := { maxStack := 3, maxLocals := 7, code := jdk_52_method_21_code, exceptionTable := #[], attributes := #[] }
def k10m3 : Method := { name := "compress", desc := "([CI[BII)I", sig := { parameters := [(.array .char), .int, (.array .byte), .int, .int], returnType := some .int }, accessFlags := 9, code := some k10c3 }
/-- java/lang/StringUTF16 -/
def k10 : Class := { plain "java/lang/StringUTF16" (some 0) with
  accessFlags := 48
  interfaces := #[]
  cf := some (fileOf pool10 12 #[.nestMembers #[627, 629, 369]] #[{ accessFlags := 0, nameIndex := 9, descriptorIndex := 10, attributes := #[] }, { accessFlags := 8, nameIndex := 261, descriptorIndex := 262, attributes := #[] }, { accessFlags := 9, nameIndex := 117, descriptorIndex := 122, attributes := #[] }, { accessFlags := 9, nameIndex := 117, descriptorIndex := 118, attributes := #[] }] 48 6 #[] #[{ accessFlags := 26, nameIndex := 61, descriptorIndex := 62, attributes := #[] }, { accessFlags := 26, nameIndex := 65, descriptorIndex := 62, attributes := #[] }, { accessFlags := 24, nameIndex := 430, descriptorIndex := 62, attributes := #[] }, { accessFlags := 4120, nameIndex := 46, descriptorIndex := 47, attributes := #[] }])
  fields := #[{ name := "HI_BYTE_SHIFT", type := .int, accessFlags := 26, slot := 0, constantValue := 0 }, { name := "LO_BYTE_SHIFT", type := .int, accessFlags := 26, slot := 1, constantValue := 0 }, { name := "MAX_LENGTH", type := .int, accessFlags := 24, slot := 2, constantValue := 0 }, { name := "$assertionsDisabled", type := .boolean, accessFlags := 4120, slot := 3, constantValue := 0 }]
  methods := #[k10m0, k10m1, k10m2, k10m3]
  instanceTypes := #[]
  staticTypes := #[.int, .int, .int, .boolean]
  resolved := Array.replicate 635 none
  statics := none }

def pool11 : Array CpInfo := pool [(1, .methodref 2 3), (0, .class_ 4), (0, .nameAndType 5 6), (0, u "java/lang/Object"), (0, u "<init>"), (0, u "()V"), (0, .class_ 8), (0, u "java/lang/Record")] 13

def k11c0 : Code := { maxStack := 1, maxLocals := 1, code := jdk_30_method_1_code, exceptionTable := #[], attributes := #[] }
def k11m0 : Method := { name := "<init>", desc := "()V", sig := { parameters := [], returnType := none }, accessFlags := 4, code := some k11c0 }
/-- java/lang/Record -/
def k11 : Class := { plain "java/lang/Record" (some 0) with
  accessFlags := 1057
  interfaces := #[]
  cf := some (fileOf pool11 7 #[] #[{ accessFlags := 4, nameIndex := 5, descriptorIndex := 6, attributes := #[] }] 1057 2 #[] #[])
  fields := #[]
  methods := #[k11m0]
  instanceTypes := #[]
  staticTypes := #[]
  resolved := Array.replicate 22 none
  statics := none }

def pool12 : Array CpInfo := pool [(1, .methodref 2 3), (0, .class_ 4), (0, .nameAndType 5 6), (0, u "java/lang/Record"), (0, u "<init>"), (0, u "()V"), (0, .fieldref 8 9), (0, .class_ 10), (0, .nameAndType 11 12), (0, u "com/example/tuplet/tuplet/Commands$Option"), (0, u "name"), (0, u "Ljava/lang/String;"), (0, .fieldref 8 14), (0, .nameAndType 15 16), (0, u "kind"), (0, u "Lcom/example/tuplet/tuplet/Commands$Kind;"), (0, .fieldref 8 18), (0, .nameAndType 19 12), (0, u "label"), (0, .fieldref 8 21), (0, .nameAndType 22 12), (0, u "help"), (0, .fieldref 8 24), (0, .nameAndType 25 26), (0, u "required"), (0, u "Z"), (0, .fieldref 8 28), (0, .nameAndType 29 12), (0, u "byDefault"), (7, .methodref 8 38), (0, .nameAndType 5 39), (0, u "(Ljava/lang/String;Lcom/example/tuplet/tuplet/Commands$Kind;Ljava/lang/String;Ljava/lang/String;ZLjava/lang/String;)V"), (0, .methodref 41 42), (0, .class_ 43), (0, .nameAndType 44 45), (0, u "java/lang/String"), (0, u "isEmpty"), (0, u "()Z"), (0, .class_ 47), (0, u "java/lang/StringBuilder"), (0, .methodref 46 3), (0, .methodref 46 50), (0, .nameAndType 51 52), (0, u "append"), (0, u "(Ljava/lang/String;)Ljava/lang/StringBuilder;"), (0, .string 54), (0, u " "), (0, .methodref 46 56), (0, .nameAndType 57 58), (0, u "toString"), (0, u "()Ljava/lang/String;"), (16, u "of"), (0, u "(Ljava/lang/String;Lcom/example/tuplet/tuplet/Commands$Kind;Ljava/lang/String;Ljava/lang/String;)Lcom/example/tuplet/tuplet/Commands$Option;"), (4, u "shown"), (3, u "()Lcom/example/tuplet/tuplet/Commands$Kind;"), (3, .class_ 90), (0, u "com/example/tuplet/tuplet/Commands")] 25

def k12c0 : Code := { maxStack := 2, maxLocals := 7, code := prog_6_method_1_code, exceptionTable := #[], attributes := #[] }
def k12m0 : Method := { name := "<init>", desc := "(Ljava/lang/String;Lcom/example/tuplet/tuplet/Commands$Kind;Ljava/lang/String;Ljava/lang/String;ZLjava/lang/String;)V", sig := { parameters := [(.object "java/lang/String"), (.object "com/example/tuplet/tuplet/Commands$Kind"), (.object "java/lang/String"), (.object "java/lang/String"), .boolean, (.object "java/lang/String")], returnType := none }, accessFlags := 0, code := some k12c0 }
def k12c1 : Code := { maxStack := 8, maxLocals := 4, code := prog_6_method_3_code, exceptionTable := #[], attributes := #[] }
def k12m1 : Method := { name := "of", desc := "(Ljava/lang/String;Lcom/example/tuplet/tuplet/Commands$Kind;Ljava/lang/String;Ljava/lang/String;)Lcom/example/tuplet/tuplet/Commands$Option;", sig := { parameters := [(.object "java/lang/String"), (.object "com/example/tuplet/tuplet/Commands$Kind"), (.object "java/lang/String"), (.object "java/lang/String")], returnType := some (.object "com/example/tuplet/tuplet/Commands$Option") }, accessFlags := 8, code := some k12c1 }
def k12c2 : Code := { maxStack := 2, maxLocals := 1, code := prog_6_method_6_code, exceptionTable := #[], attributes := #[] }
def k12m2 : Method := { name := "shown", desc := "()Ljava/lang/String;", sig := { parameters := [], returnType := some (.object "java/lang/String") }, accessFlags := 0, code := some k12c2 }
def k12c3 : Code := { maxStack := 1, maxLocals := 1, code := prog_6_method_10_code, exceptionTable := #[], attributes := #[] }
def k12m3 : Method := { name := "name", desc := "()Ljava/lang/String;", sig := { parameters := [], returnType := some (.object "java/lang/String") }, accessFlags := 1, code := some k12c3 }
def k12c4 : Code := { maxStack := 1, maxLocals := 1, code := prog_6_method_11_code, exceptionTable := #[], attributes := #[] }
def k12m4 : Method := { name := "kind", desc := "()Lcom/example/tuplet/tuplet/Commands$Kind;", sig := { parameters := [], returnType := some (.object "com/example/tuplet/tuplet/Commands$Kind") }, accessFlags := 1, code := some k12c4 }
def k12c5 : Code := { maxStack := 1, maxLocals := 1, code := prog_6_method_12_code, exceptionTable := #[], attributes := #[] }
def k12m5 : Method := { name := "label", desc := "()Ljava/lang/String;", sig := { parameters := [], returnType := some (.object "java/lang/String") }, accessFlags := 1, code := some k12c5 }
def k12c6 : Code := { maxStack := 1, maxLocals := 1, code := prog_6_method_13_code, exceptionTable := #[], attributes := #[] }
def k12m6 : Method := { name := "help", desc := "()Ljava/lang/String;", sig := { parameters := [], returnType := some (.object "java/lang/String") }, accessFlags := 1, code := some k12c6 }
def k12c7 : Code := { maxStack := 1, maxLocals := 1, code := prog_6_method_14_code, exceptionTable := #[], attributes := #[] }
def k12m7 : Method := { name := "required", desc := "()Z", sig := { parameters := [], returnType := some .boolean }, accessFlags := 1, code := some k12c7 }
def k12c8 : Code := { maxStack := 1, maxLocals := 1, code := prog_6_method_15_code, exceptionTable := #[], attributes := #[] }
def k12m8 : Method := { name := "byDefault", desc := "()Ljava/lang/String;", sig := { parameters := [], returnType := some (.object "java/lang/String") }, accessFlags := 1, code := some k12c8 }
/-- com/example/tuplet/tuplet/Commands$Option -/
def k12 : Class := { plain "com/example/tuplet/tuplet/Commands$Option" (some 11) with
  accessFlags := 48
  interfaces := #[]
  cf := some (fileOf pool12 8 #[.nestHost 89] #[{ accessFlags := 0, nameIndex := 5, descriptorIndex := 39, attributes := #[] }, { accessFlags := 8, nameIndex := 75, descriptorIndex := 76, attributes := #[] }, { accessFlags := 0, nameIndex := 81, descriptorIndex := 58, attributes := #[] }, { accessFlags := 1, nameIndex := 11, descriptorIndex := 58, attributes := #[] }, { accessFlags := 1, nameIndex := 15, descriptorIndex := 85, attributes := #[] }, { accessFlags := 1, nameIndex := 19, descriptorIndex := 58, attributes := #[] }, { accessFlags := 1, nameIndex := 22, descriptorIndex := 58, attributes := #[] }, { accessFlags := 1, nameIndex := 25, descriptorIndex := 45, attributes := #[] }, { accessFlags := 1, nameIndex := 29, descriptorIndex := 58, attributes := #[] }] 48 2 #[] #[{ accessFlags := 18, nameIndex := 11, descriptorIndex := 12, attributes := #[] }, { accessFlags := 18, nameIndex := 15, descriptorIndex := 16, attributes := #[] }, { accessFlags := 18, nameIndex := 19, descriptorIndex := 12, attributes := #[] }, { accessFlags := 18, nameIndex := 22, descriptorIndex := 12, attributes := #[] }, { accessFlags := 18, nameIndex := 25, descriptorIndex := 26, attributes := #[] }, { accessFlags := 18, nameIndex := 29, descriptorIndex := 12, attributes := #[] }])
  fields := #[{ name := "name", type := (.object "java/lang/String"), accessFlags := 18, slot := 0, constantValue := 0 }, { name := "kind", type := (.object "com/example/tuplet/tuplet/Commands$Kind"), accessFlags := 18, slot := 1, constantValue := 0 }, { name := "label", type := (.object "java/lang/String"), accessFlags := 18, slot := 2, constantValue := 0 }, { name := "help", type := (.object "java/lang/String"), accessFlags := 18, slot := 3, constantValue := 0 }, { name := "required", type := .boolean, accessFlags := 18, slot := 4, constantValue := 0 }, { name := "byDefault", type := (.object "java/lang/String"), accessFlags := 18, slot := 5, constantValue := 0 }]
  methods := #[k12m0, k12m1, k12m2, k12m3, k12m4, k12m5, k12m6, k12m7, k12m8]
  instanceTypes := #[(.object "java/lang/String"), (.object "com/example/tuplet/tuplet/Commands$Kind"), (.object "java/lang/String"), (.object "java/lang/String"), .boolean, (.object "java/lang/String")]
  staticTypes := #[]
  resolved := Array.replicate 116 none
  statics := none }

def pool13 : Array CpInfo := pool [(1, .class_ 2), (0, u "java/lang/String"), (1, .class_ 6), (1, u "java/lang/Object"), (0, u "<init>"), (0, u "()V"), (0, .methodref 1 10), (0, .nameAndType 11 12), (0, u "checkIndex"), (0, u "(II)V"), (1, .class_ 16), (1, u "java/lang/StringLatin1"), (36, u "([BI)C"), (36, u "canEncode"), (14, u "(C)Z"), (15, u "$assertionsDisabled"), (0, u "Z"), (98, .class_ 223), (1, u "java/lang/StringLatin1$LinesSpliterator"), (28, u "charAt"), (127, u "toBytes"), (1, u "(C)[B"), (7, .class_ 391), (0, u "java/lang/StringLatin1$CharsSpliterator")] 3

def k13m0 : Method := { name := "<init>", desc := "()V", sig := { parameters := [], returnType := none }, accessFlags := 0, code := none }
def k13c1 : Code := { maxStack := 2, maxLocals := 2, code := jdk_43_method_2_code, exceptionTable := #[], attributes := #[] }
def k13m1 : Method := { name := "charAt", desc := "([BI)C", sig := { parameters := [(.array .byte), .int], returnType := some .char }, accessFlags := 9, code := some k13c1 }
def k13c2 : Code := { maxStack := 2, maxLocals := 1, code := jdk_43_method_3_code, exceptionTable := #[], attributes := #[] }
def k13m2 : Method := { name := "canEncode", desc := "(C)Z", sig := { parameters := [.char], returnType := some .boolean }, accessFlags := 9, code := some k13c2 }
def k13c3 : Code := { maxStack := 4, maxLocals := 1, code := jdk_43_method_46_code, exceptionTable := #[], attributes := #[] }
def k13m3 : Method := { name := "toBytes", desc := "(C)[B", sig := { parameters := [.char], returnType := some (.array .byte) }, accessFlags := 9, code := some k13c3 }
/-- java/lang/StringLatin1 -/
def k13 : Class := { plain "java/lang/StringLatin1" (some 0) with
  accessFlags := 48
  interfaces := #[]
  cf := some (fileOf pool13 14 #[.nestMembers #[390, 221]] #[{ accessFlags := 0, nameIndex := 7, descriptorIndex := 8, attributes := #[] }, { accessFlags := 9, nameIndex := 252, descriptorIndex := 53, attributes := #[] }, { accessFlags := 9, nameIndex := 90, descriptorIndex := 105, attributes := #[] }, { accessFlags := 9, nameIndex := 380, descriptorIndex := 382, attributes := #[] }] 48 4 #[] #[{ accessFlags := 4120, nameIndex := 121, descriptorIndex := 122, attributes := #[] }])
  fields := #[{ name := "$assertionsDisabled", type := .boolean, accessFlags := 4120, slot := 0, constantValue := 0 }]
  methods := #[k13m0, k13m1, k13m2, k13m3]
  instanceTypes := #[]
  staticTypes := #[.boolean]
  resolved := Array.replicate 395 none
  statics := none }

def pool14 : Array CpInfo := pool [(1, .class_ 2), (0, u "java/lang/Appendable"), (0, .class_ 4), (0, u "java/lang/Object")] 9

/-- java/lang/Appendable -/
def k14 : Class := { plain "java/lang/Appendable" (some 0) with
  accessFlags := 1537
  interfaces := #[]
  cf := some (fileOf pool14 1 #[] #[] 1537 3 #[] #[])
  fields := #[]
  methods := #[]
  instanceTypes := #[]
  staticTypes := #[]
  resolved := Array.replicate 14 none
  statics := none }

def pool15 : Array CpInfo := pool [(1, .class_ 2), (0, u "java/lang/String"), (0, .methodref 4 5), (0, .class_ 6), (0, .nameAndType 7 8), (0, u "java/lang/Object"), (0, u "<init>"), (0, u "()V"), (1, .class_ 12), (1, u "java/lang/AbstractStringBuilder"), (0, u "EMPTYVALUE"), (0, u "[B"), (0, .fieldref 10 16), (0, .nameAndType 17 14), (0, u "value"), (0, .fieldref 1 19), (0, .nameAndType 20 21), (0, u "COMPACT_STRINGS"), (0, u "Z"), (0, .fieldref 10 23), (0, .nameAndType 24 25), (0, u "coder"), (0, u "B"), (6, .methodref 1 33), (0, .nameAndType 34 35), (0, u "length"), (0, u "()I"), (4, .methodref 1 41), (0, .nameAndType 24 42), (0, u "()B"), (2, u "append"), (0, u "(Ljava/lang/String;)Ljava/lang/AbstractStringBuilder;"), (1, .class_ 49), (0, u "java/lang/CharSequence"), (19, u "(Ljava/lang/String;)V"), (5, u "maybeLatin1"), (3, .fieldref 10 80), (0, .nameAndType 81 82), (0, u "count"), (0, u "I"), (2, u "isLatin1"), (0, u "()Z"), (13, .methodref 10 101), (0, .nameAndType 102 103), (0, u "ensureCapacityInternal"), (0, u "(I)V"), (104, .methodref 10 209), (0, .nameAndType 210 211), (0, u "putStringAt"), (0, u "(ILjava/lang/String;)V"), (5, u "inflateIfNeededFor"), (2, .nameAndType 221 222), (0, u "getBytes"), (0, u "([BIB)V"), (174, .methodref 10 398), (0, .nameAndType 217 69), (0, .methodref 1 220), (3, u "()[B"), (40, .class_ 445), (0, u "java/lang/Appendable"), (106, u "getValue")] 56

def k15m0 : Method := { name := "<init>", desc := "()V", sig := { parameters := [], returnType := none }, accessFlags := 0, code := none }
def k15c1 : Code := { maxStack := 2, maxLocals := 2, code := jdk_68_method_2_code, exceptionTable := #[], attributes := #[] }
def k15m1 : Method := { name := "<init>", desc := "(I)V", sig := { parameters := [.int], returnType := none }, accessFlags := 0, code := some k15c1 }
def k15c2 : Code := { maxStack := 1, maxLocals := 1, code := jdk_68_method_6_code, exceptionTable := #[], attributes := #[] }
def k15m2 : Method := { name := "length", desc := "()I", sig := { parameters := [], returnType := some .int }, accessFlags := 1, code := some k15c2 }
def k15c3 : Code := { maxStack := 4, maxLocals := 3, code := jdk_68_method_9_code, exceptionTable := #[], attributes := #[] }
def k15m3 : Method := { name := "ensureCapacityInternal", desc := "(I)V", sig := { parameters := [.int], returnType := none }, accessFlags := 2, code := some k15c3 }
def k15c4 : Code := { maxStack := 3, maxLocals := 3, code := jdk_68_method_22_code, exceptionTable := #[], attributes := #[] }
def k15m4 : Method := { name := "append", desc := "(Ljava/lang/String;)Ljava/lang/AbstractStringBuilder;", sig := { parameters := [(.object "java/lang/String")], returnType := some (.object "java/lang/AbstractStringBuilder") }, accessFlags := 1, code := some k15c4 }
def k15c5 : Code := { maxStack := 1, maxLocals := 1, code := jdk_68_method_64_code, exceptionTable := #[], attributes := #[] }
def k15m5 : Method := { name := "getValue", desc := "()[B", sig := { parameters := [], returnType := some (.array .byte) }, accessFlags := 16, code := some k15c5 }
def k15c6 : Code := { maxStack := 1, maxLocals := 1, code := jdk_68_method_68_code, exceptionTable := #[], attributes := #[] }
def k15m6 : Method := { name := "isLatin1", desc := "()Z", sig := { parameters := [], returnType := some .boolean }, accessFlags := 16, code := some k15c6 }
def k15c7 : Code := { maxStack := 2, maxLocals := 2, code := jdk_68_method_71_code, exceptionTable := #[], attributes := #[] }
def k15m7 : Method := { name := "inflateIfNeededFor", desc := "(Ljava/lang/String;)V", sig := { parameters := [(.object "java/lang/String")], returnType := none }, accessFlags := 2, code := some k15c7 }
def k15c8 : Code := { maxStack := 4, maxLocals := 3, code := jdk_68_method_73_code, exceptionTable := #[], attributes := #[] }
def k15m8 : Method := { name := "putStringAt", desc := "(ILjava/lang/String;)V", sig := { parameters := [.int, (.object "java/lang/String")], returnType := none }, accessFlags := 2, code := some k15c8 }
/-- java/lang/AbstractStringBuilder -/
def k15 : Class := { plain "java/lang/AbstractStringBuilder" (some 0) with
  accessFlags := 1056
  interfaces := #[14, 7]
  cf := some (fileOf pool15 10 #[] #[{ accessFlags := 0, nameIndex := 7, descriptorIndex := 8, attributes := #[] }, { accessFlags := 0, nameIndex := 7, descriptorIndex := 103, attributes := #[] }, { accessFlags := 1, nameIndex := 34, descriptorIndex := 35, attributes := #[] }, { accessFlags := 2, nameIndex := 102, descriptorIndex := 103, attributes := #[] }, { accessFlags := 1, nameIndex := 45, descriptorIndex := 46, attributes := #[] }, { accessFlags := 16, nameIndex := 552, descriptorIndex := 403, attributes := #[] }, { accessFlags := 16, nameIndex := 85, descriptorIndex := 86, attributes := #[] }, { accessFlags := 2, nameIndex := 217, descriptorIndex := 69, attributes := #[] }, { accessFlags := 2, nameIndex := 210, descriptorIndex := 211, attributes := #[] }] 1056 4 #[444, 48] #[{ accessFlags := 0, nameIndex := 17, descriptorIndex := 14, attributes := #[] }, { accessFlags := 0, nameIndex := 24, descriptorIndex := 25, attributes := #[] }, { accessFlags := 0, nameIndex := 75, descriptorIndex := 21, attributes := #[] }, { accessFlags := 0, nameIndex := 81, descriptorIndex := 82, attributes := #[] }, { accessFlags := 26, nameIndex := 13, descriptorIndex := 14, attributes := #[] }])
  fields := #[{ name := "value", type := (.array .byte), accessFlags := 0, slot := 0, constantValue := 0 }, { name := "coder", type := .byte, accessFlags := 0, slot := 1, constantValue := 0 }, { name := "maybeLatin1", type := .boolean, accessFlags := 0, slot := 2, constantValue := 0 }, { name := "count", type := .int, accessFlags := 0, slot := 3, constantValue := 0 }, { name := "EMPTYVALUE", type := (.array .byte), accessFlags := 26, slot := 0, constantValue := 0 }]
  methods := #[k15m0, k15m1, k15m2, k15m3, k15m4, k15m5, k15m6, k15m7, k15m8]
  instanceTypes := #[(.array .byte), .byte, .boolean, .int]
  staticTypes := #[(.array .byte)]
  resolved := Array.replicate 609 none
  statics := none }

def pool16 : Array CpInfo := pool [(1, .methodref 2 3), (0, .class_ 4), (0, .nameAndType 5 6), (0, u "java/lang/AbstractStringBuilder"), (0, u "<init>"), (0, u "(I)V"), (11, .class_ 20), (1, u "java/lang/String"), (3, .class_ 26), (1, u "java/lang/StringBuilder"), (0, u "append"), (0, u "(Ljava/lang/String;)Ljava/lang/StringBuilder;"), (0, .methodref 2 30), (0, .nameAndType 27 31), (0, u "(Ljava/lang/String;)Ljava/lang/AbstractStringBuilder;"), (105, .methodref 18 138), (0, .nameAndType 5 139), (0, u "(Ljava/lang/StringBuilder;)V"), (5, u "()V"), (10, u "()I"), (186, .methodref 2 344), (0, .nameAndType 345 156), (0, u "length"), (3, .class_ 350), (0, u "java/lang/Appendable"), (0, .class_ 352), (0, u "java/io/Serializable"), (0, .class_ 354), (0, u "java/lang/Comparable"), (0, .class_ 356), (0, u "java/lang/CharSequence"), (0, u "serialVersionUID"), (0, u "J"), (40, u "toString"), (0, u "()Ljava/lang/String;")] 21

def k16c0 : Code := { maxStack := 2, maxLocals := 1, code := jdk_67_method_1_code, exceptionTable := #[], attributes := #[] }
def k16m0 : Method := { name := "<init>", desc := "()V", sig := { parameters := [], returnType := none }, accessFlags := 1, code := some k16c0 }
def k16c1 : Code := { maxStack := 2, maxLocals := 2, code := jdk_67_method_7_code, exceptionTable := #[], attributes := #[] }
def k16m1 : Method := { name := "append", desc := "(Ljava/lang/String;)Ljava/lang/StringBuilder;", sig := { parameters := [(.object "java/lang/String")], returnType := some (.object "java/lang/StringBuilder") }, accessFlags := 1, code := some k16c1 }
def k16c2 : Code := { maxStack := 3, maxLocals := 1, code := jdk_67_method_42_code, exceptionTable := #[], attributes := #[] }
def k16m2 : Method := { name := "toString", desc := "()Ljava/lang/String;", sig := { parameters := [], returnType := some (.object "java/lang/String") }, accessFlags := 1, code := some k16c2 }
def k16c3 : Code := { maxStack := 1, maxLocals := 1, code := jdk_67_method_93_code, exceptionTable := #[], attributes := #[] }
def k16m3 : Method := { name := "length", desc := "()I", sig := { parameters := [], returnType := some .int }, accessFlags := 4161, code := some k16c3 }
/-- java/lang/StringBuilder -/
def k16 : Class := { plain "java/lang/StringBuilder" (some 15) with
  accessFlags := 49
  interfaces := #[14, 4, 3, 7]
  cf := some (fileOf pool16 24 #[] #[{ accessFlags := 1, nameIndex := 5, descriptorIndex := 145, attributes := #[] }, { accessFlags := 1, nameIndex := 27, descriptorIndex := 28, attributes := #[] }, { accessFlags := 1, nameIndex := 399, descriptorIndex := 400, attributes := #[] }, { accessFlags := 4161, nameIndex := 345, descriptorIndex := 156, attributes := #[] }] 49 2 #[349, 351, 353, 355] #[{ accessFlags := 24, nameIndex := 357, descriptorIndex := 358, attributes := #[] }])
  fields := #[{ name := "serialVersionUID", type := .long, accessFlags := 24, slot := 0, constantValue := 0 }]
  methods := #[k16m0, k16m1, k16m2, k16m3]
  instanceTypes := #[(.array .byte), .byte, .boolean, .int]
  staticTypes := #[.long]
  resolved := Array.replicate 422 none
  statics := none }

def pool17 : Array CpInfo := pool [(2, .class_ 4), (1, u "java/lang/Object"), (0, u "<init>"), (0, u "()V"), (1, .class_ 10), (1, u "java/lang/System"), (0, u "allowSecurityManager"), (0, u "I"), (16, u "cons"), (0, u "Ljava/io/Console;"), (77, .class_ 110), (1, u "java/lang/System$CallersHolder"), (43, u "initialErrStream"), (0, u "Ljava/io/PrintStream;"), (19, u "security"), (0, u "Ljava/lang/SecurityManager;"), (31, .class_ 209), (0, u "java/lang/System$1"), (7, u "props"), (0, u "Ljava/util/Properties;"), (2, u "lineSeparator"), (0, u "Ljava/lang/String;"), (96, .class_ 321), (1, u "java/lang/System$LoggerFinder"), (5, .class_ 328), (0, u "java/lang/System$Logger"), (67, u "err"), (2, u "out"), (91, u "notSupportedJnuEncoding"), (15, u "in"), (17, u "initialIn"), (0, u "Ljava/io/InputStream;"), (35, u "bootLayer"), (0, u "Ljava/lang/ModuleLayer;"), (99, .class_ 664), (0, u "java/lang/System$2"), (9, u "NEVER"), (2, u "MAYBE"), (49, u "arraycopy"), (0, u "(Ljava/lang/Object;ILjava/lang/Object;II)V"), (72, .class_ 802), (0, u "java/lang/System$Logger$Level")] 31

def k17m0 : Method := { name := "<init>", desc := "()V", sig := { parameters := [], returnType := none }, accessFlags := 2, code := none }
def k17m1 : Method := { name := "arraycopy", desc := "(Ljava/lang/Object;ILjava/lang/Object;II)V", sig := { parameters := [(.object "java/lang/Object"), .int, (.object "java/lang/Object"), .int, .int], returnType := none }, accessFlags := 265, code := none }
/-- java/lang/System -/
def k17 : Class := { plain "java/lang/System" (some 0) with
  accessFlags := 49
  interfaces := #[]
  cf := some (fileOf pool17 8 #[.nestMembers #[319, 327, 801, 108, 663, 208]] #[{ accessFlags := 2, nameIndex := 5, descriptorIndex := 6, attributes := #[] }, { accessFlags := 265, nameIndex := 727, descriptorIndex := 728, attributes := #[] }] 49 2 #[] #[{ accessFlags := 25, nameIndex := 507, descriptorIndex := 526, attributes := #[] }, { accessFlags := 25, nameIndex := 399, descriptorIndex := 155, attributes := #[] }, { accessFlags := 25, nameIndex := 396, descriptorIndex := 155, attributes := #[] }, { accessFlags := 10, nameIndex := 525, descriptorIndex := 526, attributes := #[] }, { accessFlags := 26, nameIndex := 674, descriptorIndex := 12, attributes := #[] }, { accessFlags := 26, nameIndex := 677, descriptorIndex := 12, attributes := #[] }, { accessFlags := 10, nameIndex := 11, descriptorIndex := 12, attributes := #[] }, { accessFlags := 74, nameIndex := 175, descriptorIndex := 176, attributes := #[] }, { accessFlags := 10, nameIndex := 491, descriptorIndex := 222, attributes := #[] }, { accessFlags := 74, nameIndex := 29, descriptorIndex := 30, attributes := #[] }, { accessFlags := 74, nameIndex := 154, descriptorIndex := 155, attributes := #[] }, { accessFlags := 10, nameIndex := 217, descriptorIndex := 218, attributes := #[] }, { accessFlags := 10, nameIndex := 221, descriptorIndex := 222, attributes := #[] }, { accessFlags := 8, nameIndex := 562, descriptorIndex := 563, attributes := #[] }])
  fields := #[{ name := "in", type := (.object "java/io/InputStream"), accessFlags := 25, slot := 0, constantValue := 0 }, { name := "out", type := (.object "java/io/PrintStream"), accessFlags := 25, slot := 1, constantValue := 0 }, { name := "err", type := (.object "java/io/PrintStream"), accessFlags := 25, slot := 2, constantValue := 0 }, { name := "initialIn", type := (.object "java/io/InputStream"), accessFlags := 10, slot := 3, constantValue := 0 }, { name := "NEVER", type := .int, accessFlags := 26, slot := 4, constantValue := 0 }, { name := "MAYBE", type := .int, accessFlags := 26, slot := 5, constantValue := 0 }, { name := "allowSecurityManager", type := .int, accessFlags := 10, slot := 6, constantValue := 0 }, { name := "security", type := (.object "java/lang/SecurityManager"), accessFlags := 74, slot := 7, constantValue := 0 }, { name := "notSupportedJnuEncoding", type := (.object "java/lang/String"), accessFlags := 10, slot := 8, constantValue := 0 }, { name := "cons", type := (.object "java/io/Console"), accessFlags := 74, slot := 9, constantValue := 0 }, { name := "initialErrStream", type := (.object "java/io/PrintStream"), accessFlags := 74, slot := 10, constantValue := 0 }, { name := "props", type := (.object "java/util/Properties"), accessFlags := 10, slot := 11, constantValue := 0 }, { name := "lineSeparator", type := (.object "java/lang/String"), accessFlags := 10, slot := 12, constantValue := 0 }, { name := "bootLayer", type := (.object "java/lang/ModuleLayer"), accessFlags := 8, slot := 13, constantValue := 0 }]
  methods := #[k17m0, k17m1]
  instanceTypes := #[]
  staticTypes := #[(.object "java/io/InputStream"), (.object "java/io/PrintStream"), (.object "java/io/PrintStream"), (.object "java/io/InputStream"), .int, .int, .int, (.object "java/lang/SecurityManager"), (.object "java/lang/String"), (.object "java/io/Console"), (.object "java/io/PrintStream"), (.object "java/util/Properties"), (.object "java/lang/String"), (.object "java/lang/ModuleLayer")]
  resolved := Array.replicate 834 none
  statics := none }

def pool18 : Array CpInfo := pool [(2, .class_ 4), (1, u "java/lang/Object"), (0, u "<init>"), (0, u "()V"), (7, .class_ 16), (1, u "java/util/Arrays"), (57, .class_ 76), (1, u "java/util/Arrays$NaturalOrder"), (36, .class_ 115), (1, u "java/util/Arrays$LegacyMergeSort"), (1, u "Z"), (21, u "copyOfRange"), (10, .methodref 151 152), (0, .class_ 153), (0, .nameAndType 154 155), (0, u "java/lang/System"), (0, u "arraycopy"), (0, u "(Ljava/lang/Object;ILjava/lang/Object;II)V"), (148, .methodref 305 306), (0, .class_ 307), (0, .nameAndType 308 309), (0, u "java/lang/Math"), (0, u "min"), (0, u "(II)I"), (29, .methodref 14 340), (0, .nameAndType 341 342), (0, u "copyOfRangeByte"), (0, u "([BII)[B"), (0, .methodref 14 344), (0, .nameAndType 345 346), (0, u "checkLength"), (0, u "(II)V"), (28, .class_ 376), (0, u "java/util/Arrays$ArrayList"), (68, u "$assertionsDisabled"), (269, u "MIN_ARRAY_SORT_GRAN"), (0, u "I"), (2, u "INSERTIONSORT_THRESHOLD"), (255, .class_ 976), (0, u "java/util/Arrays$ArrayItr")] 52

def k18m0 : Method := { name := "<init>", desc := "()V", sig := { parameters := [], returnType := none }, accessFlags := 2, code := none }
def k18c1 : Code := { maxStack := 4, maxLocals := 2, code := jdk_65_method_131_code, exceptionTable := #[], attributes := #[] }
def k18m1 : Method := { name := "checkLength", desc := "(II)V", sig := { parameters := [.int, .int], returnType := none }, accessFlags := 10, code := some k18c1 }
def k18c2 : Code := { maxStack := 3, maxLocals := 3, code := jdk_65_method_132_code, exceptionTable := #[], attributes := #[] }
def k18m2 : Method := { name := "copyOfRange", desc := "([BII)[B", sig := { parameters := [(.array .byte), .int, .int], returnType := some (.array .byte) }, accessFlags := 9, code := some k18c2 }
def k18c3 : Code := { maxStack := 6, maxLocals := 5, code := jdk_65_method_133_code, exceptionTable := #[], attributes := #[] }
def k18m3 : Method := { name := "copyOfRangeByte", desc := "([BII)[B", sig := { parameters := [(.array .byte), .int, .int], returnType := some (.array .byte) }, accessFlags := 10, code := some k18c3 }
/-- java/util/Arrays -/
def k18 : Class := { plain "java/util/Arrays" (some 0) with
  accessFlags := 49
  interfaces := #[]
  cf := some (fileOf pool18 14 #[.nestMembers #[975, 375, 113, 74]] #[{ accessFlags := 2, nameIndex := 5, descriptorIndex := 6, attributes := #[] }, { accessFlags := 10, nameIndex := 345, descriptorIndex := 346, attributes := #[] }, { accessFlags := 9, nameIndex := 139, descriptorIndex := 342, attributes := #[] }, { accessFlags := 10, nameIndex := 341, descriptorIndex := 342, attributes := #[] }] 49 2 #[] #[{ accessFlags := 26, nameIndex := 715, descriptorIndex := 716, attributes := #[] }, { accessFlags := 26, nameIndex := 719, descriptorIndex := 716, attributes := #[] }, { accessFlags := 4120, nameIndex := 445, descriptorIndex := 117, attributes := #[] }])
  fields := #[{ name := "MIN_ARRAY_SORT_GRAN", type := .int, accessFlags := 26, slot := 0, constantValue := 0 }, { name := "INSERTIONSORT_THRESHOLD", type := .int, accessFlags := 26, slot := 1, constantValue := 0 }, { name := "$assertionsDisabled", type := .boolean, accessFlags := 4120, slot := 2, constantValue := 0 }]
  methods := #[k18m0, k18m1, k18m2, k18m3]
  instanceTypes := #[]
  staticTypes := #[.int, .int, .boolean]
  resolved := Array.replicate 1029 none
  statics := none }

def pool19 : Array CpInfo := pool [(1, .class_ 2), (0, u "java/lang/Math"), (1, .class_ 6), (1, u "java/lang/Object"), (0, u "<init>"), (0, u "()V"), (89, .class_ 100), (1, u "java/lang/Math$RandomNumberGeneratorHolder"), (71, u "negativeZeroFloatBits"), (0, u "J"), (2, u "negativeZeroDoubleBits"), (24, u "min"), (43, u "$assertionsDisabled"), (0, u "Z"), (88, u "(II)I"), (2, u "twoToTheDoubleScaleDown"), (0, u "D"), (4, u "twoToTheDoubleScaleUp"), (9, u "E"), (3, u "PI"), (2, u "TAU"), (2, u "DEGREES_TO_RADIANS"), (0, u "RADIANS_TO_DEGREES")] 94

def k19m0 : Method := { name := "<init>", desc := "()V", sig := { parameters := [], returnType := none }, accessFlags := 2, code := none }
def k19c1 : Code := { maxStack := 2, maxLocals := 2, code := jdk_29_method_69_code, exceptionTable := #[], attributes := #[] }
def k19m1 : Method := { name := "min", desc := "(II)I", sig := { parameters := [.int, .int], returnType := some .int }, accessFlags := 9, code := some k19c1 }
/-- java/lang/Math -/
def k19 : Class := { plain "java/lang/Math" (some 0) with
  accessFlags := 49
  interfaces := #[]
  cf := some (fileOf pool19 1 #[.nestMembers #[98]] #[{ accessFlags := 2, nameIndex := 7, descriptorIndex := 8, attributes := #[] }, { accessFlags := 9, nameIndex := 201, descriptorIndex := 335, attributes := #[] }] 49 4 #[] #[{ accessFlags := 25, nameIndex := 354, descriptorIndex := 339, attributes := #[] }, { accessFlags := 25, nameIndex := 358, descriptorIndex := 339, attributes := #[] }, { accessFlags := 25, nameIndex := 361, descriptorIndex := 339, attributes := #[] }, { accessFlags := 26, nameIndex := 364, descriptorIndex := 339, attributes := #[] }, { accessFlags := 26, nameIndex := 365, descriptorIndex := 339, attributes := #[] }, { accessFlags := 26, nameIndex := 172, descriptorIndex := 173, attributes := #[] }, { accessFlags := 26, nameIndex := 176, descriptorIndex := 173, attributes := #[] }, { accessFlags := 8, nameIndex := 344, descriptorIndex := 339, attributes := #[] }, { accessFlags := 8, nameIndex := 338, descriptorIndex := 339, attributes := #[] }, { accessFlags := 4120, nameIndex := 245, descriptorIndex := 246, attributes := #[] }])
  fields := #[{ name := "E", type := .double, accessFlags := 25, slot := 0, constantValue := 0 }, { name := "PI", type := .double, accessFlags := 25, slot := 1, constantValue := 0 }, { name := "TAU", type := .double, accessFlags := 25, slot := 2, constantValue := 0 }, { name := "DEGREES_TO_RADIANS", type := .double, accessFlags := 26, slot := 3, constantValue := 0 }, { name := "RADIANS_TO_DEGREES", type := .double, accessFlags := 26, slot := 4, constantValue := 0 }, { name := "negativeZeroFloatBits", type := .long, accessFlags := 26, slot := 5, constantValue := 0 }, { name := "negativeZeroDoubleBits", type := .long, accessFlags := 26, slot := 6, constantValue := 0 }, { name := "twoToTheDoubleScaleUp", type := .double, accessFlags := 8, slot := 7, constantValue := 0 }, { name := "twoToTheDoubleScaleDown", type := .double, accessFlags := 8, slot := 8, constantValue := 0 }, { name := "$assertionsDisabled", type := .boolean, accessFlags := 4120, slot := 9, constantValue := 0 }]
  methods := #[k19m0, k19m1]
  instanceTypes := #[]
  staticTypes := #[.double, .double, .double, .double, .double, .long, .long, .double, .double, .boolean]
  resolved := Array.replicate 460 none
  statics := none }

def pool20 : Array CpInfo := pool [(2, .class_ 4), (1, u "java/lang/Object"), (0, u "<init>"), (0, u "()V"), (17, .class_ 26), (1, u "jdk/internal/util/Preconditions"), (6, u "checkIndex"), (21, .class_ 56), (0, u "jdk/internal/util/Preconditions$4"), (57, .class_ 115), (0, u "jdk/internal/util/Preconditions$1"), (7, u "SIOOBE_FORMATTER"), (0, u "Ljava/util/function/BiFunction;"), (0, .class_ 126), (0, u "jdk/internal/util/Preconditions$2"), (3, u "AIOOBE_FORMATTER"), (0, .class_ 132), (0, u "jdk/internal/util/Preconditions$3"), (3, u "IOOBE_FORMATTER"), (41, u "(IILjava/util/function/BiFunction;)I")] 15

def k20m0 : Method := { name := "<init>", desc := "()V", sig := { parameters := [], returnType := none }, accessFlags := 1, code := none }
def k20c1 : Code := { maxStack := 3, maxLocals := 3, code := jdk_41_method_11_code, exceptionTable := #[], attributes := #[] }
def k20m1 : Method := { name := "checkIndex", desc := "(IILjava/util/function/BiFunction;)I", sig := { parameters := [.int, .int, (.object "java/util/function/BiFunction")], returnType := some .int }, accessFlags := 9, code := some k20c1 }
/-- jdk/internal/util/Preconditions -/
def k20 : Class := { plain "jdk/internal/util/Preconditions" (some 0) with
  accessFlags := 33
  interfaces := #[]
  cf := some (fileOf pool20 24 #[.nestMembers #[55, 131, 125, 114]] #[{ accessFlags := 1, nameIndex := 5, descriptorIndex := 6, attributes := #[] }, { accessFlags := 9, nameIndex := 33, descriptorIndex := 178, attributes := #[] }] 33 2 #[] #[{ accessFlags := 25, nameIndex := 123, descriptorIndex := 124, attributes := #[] }, { accessFlags := 25, nameIndex := 130, descriptorIndex := 124, attributes := #[] }, { accessFlags := 25, nameIndex := 136, descriptorIndex := 124, attributes := #[] }])
  fields := #[{ name := "SIOOBE_FORMATTER", type := (.object "java/util/function/BiFunction"), accessFlags := 25, slot := 0, constantValue := 0 }, { name := "AIOOBE_FORMATTER", type := (.object "java/util/function/BiFunction"), accessFlags := 25, slot := 1, constantValue := 0 }, { name := "IOOBE_FORMATTER", type := (.object "java/util/function/BiFunction"), accessFlags := 25, slot := 2, constantValue := 0 }]
  methods := #[k20m0, k20m1]
  instanceTypes := #[]
  staticTypes := #[(.object "java/util/function/BiFunction"), (.object "java/util/function/BiFunction"), (.object "java/util/function/BiFunction")]
  resolved := Array.replicate 194 none
  statics := some 2 }

def pool21 : Array CpInfo := pool [(9, u "<init>"), (6, .class_ 18), (1, u "java/lang/Object"), (0, u "()V"), (1, .class_ 23), (1, u "jdk/internal/util/ArraysSupport"), (0, u "LOG2_ARRAY_LONG_INDEX_SCALE"), (0, u "I"), (2, u "U"), (0, u "Ljdk/internal/misc/Unsafe;"), (8, u "BIG_ENDIAN"), (0, u "Z"), (8, u "LOG2_BYTE_BIT_SIZE"), (4, u "LOG2_ARRAY_INT_INDEX_SCALE"), (54, u "JLA"), (0, u "Ljdk/internal/access/JavaLangAccess;"), (11, u "LOG2_ARRAY_BOOLEAN_INDEX_SCALE"), (9, u "LOG2_ARRAY_BYTE_INDEX_SCALE"), (5, u "LOG2_ARRAY_CHAR_INDEX_SCALE"), (5, u "LOG2_ARRAY_SHORT_INDEX_SCALE"), (18, u "LOG2_ARRAY_FLOAT_INDEX_SCALE"), (24, u "LOG2_ARRAY_DOUBLE_INDEX_SCALE"), (89, u "T_BOOLEAN"), (2, u "T_CHAR"), (1, u "T_FLOAT"), (1, u "T_DOUBLE"), (1, u "T_BYTE"), (1, u "T_SHORT"), (1, u "T_INT"), (1, u "T_LONG"), (1, u "SOFT_MAX_ARRAY_LENGTH")] 83

def k21m0 : Method := { name := "<init>", desc := "()V", sig := { parameters := [], returnType := none }, accessFlags := 2, code := none }
/-- jdk/internal/util/ArraysSupport -/
def k21 : Class := { plain "jdk/internal/util/ArraysSupport" (some 0) with
  accessFlags := 33
  interfaces := #[]
  cf := some (fileOf pool21 21 #[] #[{ accessFlags := 2, nameIndex := 9, descriptorIndex := 19, attributes := #[] }] 33 16 #[] #[{ accessFlags := 24, nameIndex := 28, descriptorIndex := 29, attributes := #[] }, { accessFlags := 26, nameIndex := 38, descriptorIndex := 39, attributes := #[] }, { accessFlags := 25, nameIndex := 121, descriptorIndex := 25, attributes := #[] }, { accessFlags := 25, nameIndex := 131, descriptorIndex := 25, attributes := #[] }, { accessFlags := 25, nameIndex := 137, descriptorIndex := 25, attributes := #[] }, { accessFlags := 25, nameIndex := 143, descriptorIndex := 25, attributes := #[] }, { accessFlags := 25, nameIndex := 53, descriptorIndex := 25, attributes := #[] }, { accessFlags := 25, nameIndex := 24, descriptorIndex := 25, attributes := #[] }, { accessFlags := 25, nameIndex := 162, descriptorIndex := 25, attributes := #[] }, { accessFlags := 25, nameIndex := 187, descriptorIndex := 25, attributes := #[] }, { accessFlags := 26, nameIndex := 48, descriptorIndex := 25, attributes := #[] }, { accessFlags := 25, nameIndex := 277, descriptorIndex := 25, attributes := #[] }, { accessFlags := 25, nameIndex := 280, descriptorIndex := 25, attributes := #[] }, { accessFlags := 25, nameIndex := 282, descriptorIndex := 25, attributes := #[] }, { accessFlags := 25, nameIndex := 284, descriptorIndex := 25, attributes := #[] }, { accessFlags := 25, nameIndex := 286, descriptorIndex := 25, attributes := #[] }, { accessFlags := 25, nameIndex := 288, descriptorIndex := 25, attributes := #[] }, { accessFlags := 25, nameIndex := 290, descriptorIndex := 25, attributes := #[] }, { accessFlags := 25, nameIndex := 292, descriptorIndex := 25, attributes := #[] }, { accessFlags := 26, nameIndex := 108, descriptorIndex := 109, attributes := #[] }, { accessFlags := 25, nameIndex := 294, descriptorIndex := 25, attributes := #[] }])
  fields := #[{ name := "U", type := (.object "jdk/internal/misc/Unsafe"), accessFlags := 24, slot := 0, constantValue := 0 }, { name := "BIG_ENDIAN", type := .boolean, accessFlags := 26, slot := 1, constantValue := 0 }, { name := "LOG2_ARRAY_BOOLEAN_INDEX_SCALE", type := .int, accessFlags := 25, slot := 2, constantValue := 0 }, { name := "LOG2_ARRAY_BYTE_INDEX_SCALE", type := .int, accessFlags := 25, slot := 3, constantValue := 0 }, { name := "LOG2_ARRAY_CHAR_INDEX_SCALE", type := .int, accessFlags := 25, slot := 4, constantValue := 0 }, { name := "LOG2_ARRAY_SHORT_INDEX_SCALE", type := .int, accessFlags := 25, slot := 5, constantValue := 0 }, { name := "LOG2_ARRAY_INT_INDEX_SCALE", type := .int, accessFlags := 25, slot := 6, constantValue := 0 }, { name := "LOG2_ARRAY_LONG_INDEX_SCALE", type := .int, accessFlags := 25, slot := 7, constantValue := 0 }, { name := "LOG2_ARRAY_FLOAT_INDEX_SCALE", type := .int, accessFlags := 25, slot := 8, constantValue := 0 }, { name := "LOG2_ARRAY_DOUBLE_INDEX_SCALE", type := .int, accessFlags := 25, slot := 9, constantValue := 0 }, { name := "LOG2_BYTE_BIT_SIZE", type := .int, accessFlags := 26, slot := 10, constantValue := 0 }, { name := "T_BOOLEAN", type := .int, accessFlags := 25, slot := 11, constantValue := 0 }, { name := "T_CHAR", type := .int, accessFlags := 25, slot := 12, constantValue := 0 }, { name := "T_FLOAT", type := .int, accessFlags := 25, slot := 13, constantValue := 0 }, { name := "T_DOUBLE", type := .int, accessFlags := 25, slot := 14, constantValue := 0 }, { name := "T_BYTE", type := .int, accessFlags := 25, slot := 15, constantValue := 0 }, { name := "T_SHORT", type := .int, accessFlags := 25, slot := 16, constantValue := 0 }, { name := "T_INT", type := .int, accessFlags := 25, slot := 17, constantValue := 0 }, { name := "T_LONG", type := .int, accessFlags := 25, slot := 18, constantValue := 0 }, { name := "JLA", type := (.object "jdk/internal/access/JavaLangAccess"), accessFlags := 26, slot := 19, constantValue := 0 }, { name := "SOFT_MAX_ARRAY_LENGTH", type := .int, accessFlags := 25, slot := 20, constantValue := 0 }]
  methods := #[k21m0]
  instanceTypes := #[]
  staticTypes := #[(.object "jdk/internal/misc/Unsafe"), .boolean, .int, .int, .int, .int, .int, .int, .int, .int, .int, .int, .int, .int, .int, .int, .int, .int, .int, (.object "jdk/internal/access/JavaLangAccess"), .int]
  resolved := Array.replicate 378 none
  statics := none }

def pool22 : Array CpInfo := pool [(1, u "java/lang/Cloneable"), (0, .class_ 1), (0, u "java/lang/Object"), (0, .class_ 3)] 3

/-- java/lang/Cloneable -/
def k22 : Class := { plain "java/lang/Cloneable" (some 0) with
  accessFlags := 1537
  interfaces := #[]
  cf := some (fileOf pool22 2 #[] #[] 1537 4 #[] #[])
  fields := #[]
  methods := #[]
  instanceTypes := #[]
  staticTypes := #[]
  resolved := Array.replicate 8 none
  statics := none }

/-- the primitive byte -/
def k23 : Class := { plain "byte" none with kind := .primitive 'B', accessFlags := 0x411 }
/-- [B -/
def k24 : Class := { plain "[B" (some 0) with kind := .array 23 .byte, interfaces := #[22, 4], accessFlags := 1041 }

/-- the primitive char -/
def k25 : Class := { plain "char" none with kind := .primitive 'C', accessFlags := 0x411 }
/-- [C -/
def k26 : Class := { plain "[C" (some 0) with kind := .array 25 .char, interfaces := #[22, 4], accessFlags := 1041 }

/-- the primitive int -/
def k27 : Class := { plain "int" none with kind := .primitive 'I', accessFlags := 0x411 }
/-- [I -/
def k28 : Class := { plain "[I" (some 0) with kind := .array 27 .int, interfaces := #[22, 4], accessFlags := 1041 }

def heap : Heap := #[{ cls := 6, slots := #[.ref 3, .ref 3, .ref 3, .ref 3, .ref 3, .null], vm := .statics 6 },
  { cls := 9, slots := #[.long 0, .int 1, .null, .int 0, .null, .int 0, .int 0], vm := .statics 9 },
  { cls := 20, slots := #[.null, .null, .null], vm := .statics 20 },
  { cls := 6, slots := #[.null, .int 0, .int 0], vm := .none }]
def classes : Array Class := #[k0, k1, k2, k3, k4, k5, k6, k7, k8, k9, k10, k11, k12, k13, k14, k15, k16, k17, k18, k19, k20, k21, k22, k23, k24, k25, k26, k27, k28]
def interned : List (Array UInt16 × Addr) := []
def slotsUsed : Nat := 19
def theMethod : MethodId := ⟨1, 2⟩
def args0 : Array Value := #[.int 5, .int 7, .int 1, .int 1]
def aboutOver (below : List Frame) : State where
  vm := { classes := classes, interned := interned.toArray }
  heap := heap
  slotsUsed := slotsUsed
  threads := #[{ frames := .invoking theMethod args0 :: below }]
def below0 : List Frame := [.native { method := ⟨0, 0⟩, args := #[] }]
def about1 : State := aboutOver below0
def p0 : Program := .bare "" "" ""
def e0 : Env := launch0.env 0 0 0
theorem w_frames : about1.frames = Frame.invoking theMethod args0 :: below0 := rfl
set_option maxRecDepth 65536 in
theorem w_args : argsFit about1.vm theMethod args0 = true := by decide +kernel
set_option maxRecDepth 65536 in
theorem w_heap : heapFits about1 = true := by decide +kernel
set_option maxRecDepth 65536 in
theorem w_runnable : about1.curStatus? = some .runnable := by decide +kernel
set_option maxRecDepth 65536 in
theorem w_alone : about1.alone = true := by decide +kernel
set_option maxRecDepth 65536 in
theorem w_named : about1.methodNamed? x = some theMethod := by decide +kernel
set_option maxRecDepth 65536 in
theorem w_hears : about1.hears theMethod below0 = true := by decide +kernel
set_option maxRecDepth 65536 in
theorem w_ripe : about1.ripe theMethod args0 below0 = true := by decide +kernel
theorem w_running : about1.status = .running := rfl
set_option maxRecDepth 65536 in
theorem w_room : about1.hasRoom e0.platform room_1 = true :=
  launch0.hasRoom_least _ room_1 (by decide +kernel) (by decide +kernel) (by decide +kernel) (by decide +kernel) (by decide +kernel) (by decide +kernel)
theorem allAtoms_all (ts : List Jvm.Cond) (a : Array Jvm.Value) (st : Jvm.State) : (allAtoms ts).before a st = ts.all (fun c => c.before a st) := by
  induction ts with
  | nil => rfl
  | cons c t ih =>
    show (Jvm.Cond.and c (allAtoms t)).before a st = _
    rw [Jvm.Cond.before_and, ih, List.all_cons]
def words1 : List Jvm.Cond := Jvm.Cond.code x code maxLocals ret :: tables_1
/-- a 'code' word, met by the world's own term for the bytes: nothing is compared byte by byte -/
theorem code_word {y : MethodName} {bytes : ByteArray} {mx : Nat} {rt : Option FieldType} {a : Array Value} {s : State} {m : MethodId} {meth : Method} {c : Code} (h1 : s.methodNamed? y = some m) (h2 : s.vm.method? m = some meth) (h3 : meth.code = some c) (h4 : c.code = bytes)
    (h5 : (c.maxLocals == mx && c.exceptionTable.isEmpty && decide (c.maxStack ≤ mostOperands) && decide (meth.sig.returnType = rt) && !meth.locks && decide (parseMethodDescriptor y.desc = some meth.sig)) = true) : (Jvm.Cond.code y bytes mx rt).before a s = true := by
  simp only [Bool.and_eq_true, beq_iff_eq, Bool.not_eq_true', decide_eq_true_eq] at h5
  obtain ⟨⟨⟨⟨⟨g1, g2⟩, g3⟩, g4⟩, g5⟩, g6⟩ := h5
  simp [Cond.before, Cond.holds, Cond.value, h1, h2, h3, h4, g1, g2, g3, g4, g5, g6]
def isCode : Jvm.Cond → Bool
  | .code _ _ _ _ => true
  | _ => false
theorem all_split {L : List Jvm.Cond} {P : Jvm.Cond → Bool} (h1 : L.all (fun c => isCode c || P c) = true) (h2 : ∀ c ∈ L.filter isCode, P c = true) : L.all P = true := by
  refine List.all_eq_true.mpr fun c hc => ?_
  have h := List.all_eq_true.mp h1 c hc
  rcases Bool.eq_false_or_eq_true (isCode c) with hi | hi
  · exact h2 c (List.mem_filter.mpr ⟨hc, hi⟩)
  · simpa [hi] using h
set_option maxRecDepth 65536 in
theorem w_c0 : (Jvm.Cond.code x code maxLocals ret).before args0 about1 = true := code_word (m := ⟨1, 2⟩) (meth := k1m2) (c := k1c2) (by decide +kernel) rfl rfl rfl (by decide +kernel)
set_option maxRecDepth 65536 in
theorem w_c1 : (Jvm.Cond.code ({ cls := "com/example/tuplet/tuplet/OptionOfPinLaw", name := "kindOf", desc := "(I)Lcom/example/tuplet/tuplet/Commands$Kind;" } : Jvm.MethodName) method_2_code (2 : Nat) (Option.some (Jvm.ClassFile.FieldType.object "com/example/tuplet/tuplet/Commands$Kind"))).before args0 about1 = true := code_word (m := ⟨1, 1⟩) (meth := k1m1) (c := k1c1) (by decide +kernel) rfl rfl rfl (by decide +kernel)
set_option maxRecDepth 65536 in
theorem w_c2 : (Jvm.Cond.code ({ cls := "java/lang/String", name := "<init>", desc := "([C)V" } : Jvm.MethodName) jdk_42_method_3_code (2 : Nat) (Option.none : Option Jvm.ClassFile.FieldType)).before args0 about1 = true := code_word (m := ⟨9, 1⟩) (meth := k9m1) (c := k9c1) (by decide +kernel) rfl rfl rfl (by decide +kernel)
set_option maxRecDepth 65536 in
theorem w_c3 : (Jvm.Cond.code ({ cls := "java/lang/String", name := "<init>", desc := "([CIILjava/lang/Void;)V" } : Jvm.MethodName) jdk_42_method_149_code (6 : Nat) (Option.none : Option Jvm.ClassFile.FieldType)).before args0 about1 = true := code_word (m := ⟨9, 9⟩) (meth := k9m9) (c := k9c9) (by decide +kernel) rfl rfl rfl (by decide +kernel)
set_option maxRecDepth 65536 in
theorem w_c4 : (Jvm.Cond.code ({ cls := "java/lang/Object", name := "<init>", desc := "()V" } : Jvm.MethodName) object_method_1_code (1 : Nat) (Option.none : Option Jvm.ClassFile.FieldType)).before args0 about1 = true := code_word (m := ⟨0, 0⟩) (meth := k0m0) (c := k0c0) (by decide +kernel) rfl rfl rfl (by decide +kernel)
set_option maxRecDepth 65536 in
theorem w_c5 : (Jvm.Cond.code ({ cls := "java/lang/StringUTF16", name := "compress", desc := "([CII)[B" } : Jvm.MethodName) jdk_52_method_16_code (6 : Nat) (Option.some (Jvm.ClassFile.FieldType.array Jvm.ClassFile.FieldType.byte))).before args0 about1 = true := code_word (m := ⟨10, 2⟩) (meth := k10m2) (c := k10c2) (by decide +kernel) rfl rfl rfl (by decide +kernel)
set_option maxRecDepth 65536 in
theorem w_c6 : (Jvm.Cond.code ({ cls := "java/lang/StringUTF16", name := "compress", desc := "([CI[BII)I" } : Jvm.MethodName) jdk_52_method_21_code (7 : Nat) (Option.some Jvm.ClassFile.FieldType.int)).before args0 about1 = true := code_word (m := ⟨10, 3⟩) (meth := k10m3) (c := k10c3) (by decide +kernel) rfl rfl rfl (by decide +kernel)
set_option maxRecDepth 65536 in
theorem w_c7 : (Jvm.Cond.code ({ cls := "java/lang/StringUTF16", name := "coderFromArrayLen", desc := "([BI)B" } : Jvm.MethodName) jdk_52_method_15_code (2 : Nat) (Option.some Jvm.ClassFile.FieldType.byte)).before args0 about1 = true := code_word (m := ⟨10, 1⟩) (meth := k10m1) (c := k10c1) (by decide +kernel) rfl rfl rfl (by decide +kernel)
set_option maxRecDepth 65536 in
theorem w_c8 : (Jvm.Cond.code ({ cls := "com/example/tuplet/tuplet/Commands$Option", name := "of", desc := "(Ljava/lang/String;Lcom/example/tuplet/tuplet/Commands$Kind;Ljava/lang/String;Ljava/lang/String;)Lcom/example/tuplet/tuplet/Commands$Option;" } : Jvm.MethodName) prog_6_method_3_code (4 : Nat) (Option.some (Jvm.ClassFile.FieldType.object "com/example/tuplet/tuplet/Commands$Option"))).before args0 about1 = true := code_word (m := ⟨12, 1⟩) (meth := k12m1) (c := k12c1) (by decide +kernel) rfl rfl rfl (by decide +kernel)
set_option maxRecDepth 65536 in
theorem w_c9 : (Jvm.Cond.code ({ cls := "com/example/tuplet/tuplet/Commands$Option", name := "<init>", desc := "(Ljava/lang/String;Lcom/example/tuplet/tuplet/Commands$Kind;Ljava/lang/String;Ljava/lang/String;ZLjava/lang/String;)V" } : Jvm.MethodName) prog_6_method_1_code (7 : Nat) (Option.none : Option Jvm.ClassFile.FieldType)).before args0 about1 = true := code_word (m := ⟨12, 0⟩) (meth := k12m0) (c := k12c0) (by decide +kernel) rfl rfl rfl (by decide +kernel)
set_option maxRecDepth 65536 in
theorem w_c10 : (Jvm.Cond.code ({ cls := "java/lang/Record", name := "<init>", desc := "()V" } : Jvm.MethodName) jdk_30_method_1_code (1 : Nat) (Option.none : Option Jvm.ClassFile.FieldType)).before args0 about1 = true := code_word (m := ⟨11, 0⟩) (meth := k11m0) (c := k11c0) (by decide +kernel) rfl rfl rfl (by decide +kernel)
set_option maxRecDepth 65536 in
theorem w_c11 : (Jvm.Cond.code ({ cls := "com/example/tuplet/tuplet/Commands$Option", name := "name", desc := "()Ljava/lang/String;" } : Jvm.MethodName) prog_6_method_10_code (1 : Nat) (Option.some (Jvm.ClassFile.FieldType.object "java/lang/String"))).before args0 about1 = true := code_word (m := ⟨12, 3⟩) (meth := k12m3) (c := k12c3) (by decide +kernel) rfl rfl rfl (by decide +kernel)
set_option maxRecDepth 65536 in
theorem w_c12 : (Jvm.Cond.code ({ cls := "java/lang/String", name := "equals", desc := "(Ljava/lang/Object;)Z" } : Jvm.MethodName) jdk_42_method_66_code (3 : Nat) (Option.some Jvm.ClassFile.FieldType.boolean)).before args0 about1 = true := code_word (m := ⟨9, 6⟩) (meth := k9m6) (c := k9c6) (by decide +kernel) rfl rfl rfl (by decide +kernel)
set_option maxRecDepth 65536 in
theorem w_c13 : (Jvm.Cond.code ({ cls := "com/example/tuplet/tuplet/Commands$Option", name := "kind", desc := "()Lcom/example/tuplet/tuplet/Commands$Kind;" } : Jvm.MethodName) prog_6_method_11_code (1 : Nat) (Option.some (Jvm.ClassFile.FieldType.object "com/example/tuplet/tuplet/Commands$Kind"))).before args0 about1 = true := code_word (m := ⟨12, 4⟩) (meth := k12m4) (c := k12c4) (by decide +kernel) rfl rfl rfl (by decide +kernel)
set_option maxRecDepth 65536 in
theorem w_c14 : (Jvm.Cond.code ({ cls := "com/example/tuplet/tuplet/Commands$Option", name := "label", desc := "()Ljava/lang/String;" } : Jvm.MethodName) prog_6_method_12_code (1 : Nat) (Option.some (Jvm.ClassFile.FieldType.object "java/lang/String"))).before args0 about1 = true := code_word (m := ⟨12, 5⟩) (meth := k12m5) (c := k12c5) (by decide +kernel) rfl rfl rfl (by decide +kernel)
set_option maxRecDepth 65536 in
theorem w_c15 : (Jvm.Cond.code ({ cls := "com/example/tuplet/tuplet/Commands$Option", name := "help", desc := "()Ljava/lang/String;" } : Jvm.MethodName) prog_6_method_13_code (1 : Nat) (Option.some (Jvm.ClassFile.FieldType.object "java/lang/String"))).before args0 about1 = true := code_word (m := ⟨12, 6⟩) (meth := k12m6) (c := k12c6) (by decide +kernel) rfl rfl rfl (by decide +kernel)
set_option maxRecDepth 65536 in
theorem w_c16 : (Jvm.Cond.code ({ cls := "com/example/tuplet/tuplet/Commands$Option", name := "required", desc := "()Z" } : Jvm.MethodName) prog_6_method_14_code (1 : Nat) (Option.some Jvm.ClassFile.FieldType.boolean)).before args0 about1 = true := code_word (m := ⟨12, 7⟩) (meth := k12m7) (c := k12c7) (by decide +kernel) rfl rfl rfl (by decide +kernel)
set_option maxRecDepth 65536 in
theorem w_c17 : (Jvm.Cond.code ({ cls := "com/example/tuplet/tuplet/Commands$Option", name := "byDefault", desc := "()Ljava/lang/String;" } : Jvm.MethodName) prog_6_method_15_code (1 : Nat) (Option.some (Jvm.ClassFile.FieldType.object "java/lang/String"))).before args0 about1 = true := code_word (m := ⟨12, 8⟩) (meth := k12m8) (c := k12c8) (by decide +kernel) rfl rfl rfl (by decide +kernel)
set_option maxRecDepth 65536 in
theorem w_c18 : (Jvm.Cond.code ({ cls := "com/example/tuplet/tuplet/Commands$Option", name := "shown", desc := "()Ljava/lang/String;" } : Jvm.MethodName) prog_6_method_6_code (1 : Nat) (Option.some (Jvm.ClassFile.FieldType.object "java/lang/String"))).before args0 about1 = true := code_word (m := ⟨12, 2⟩) (meth := k12m2) (c := k12c2) (by decide +kernel) rfl rfl rfl (by decide +kernel)
set_option maxRecDepth 65536 in
theorem w_c19 : (Jvm.Cond.code ({ cls := "java/lang/String", name := "isEmpty", desc := "()Z" } : Jvm.MethodName) jdk_42_method_55_code (1 : Nat) (Option.some Jvm.ClassFile.FieldType.boolean)).before args0 about1 = true := code_word (m := ⟨9, 4⟩) (meth := k9m4) (c := k9c4) (by decide +kernel) rfl rfl rfl (by decide +kernel)
set_option maxRecDepth 65536 in
theorem w_c20 : (Jvm.Cond.code ({ cls := "java/lang/String", name := "valueOf", desc := "(C)Ljava/lang/String;" } : Jvm.MethodName) jdk_42_method_139_code (1 : Nat) (Option.some (Jvm.ClassFile.FieldType.object "java/lang/String"))).before args0 about1 = true := code_word (m := ⟨9, 7⟩) (meth := k9m7) (c := k9c7) (by decide +kernel) rfl rfl rfl (by decide +kernel)
set_option maxRecDepth 65536 in
theorem w_c21 : (Jvm.Cond.code ({ cls := "java/lang/StringLatin1", name := "canEncode", desc := "(C)Z" } : Jvm.MethodName) jdk_43_method_3_code (1 : Nat) (Option.some Jvm.ClassFile.FieldType.boolean)).before args0 about1 = true := code_word (m := ⟨13, 2⟩) (meth := k13m2) (c := k13c2) (by decide +kernel) rfl rfl rfl (by decide +kernel)
set_option maxRecDepth 65536 in
theorem w_c22 : (Jvm.Cond.code ({ cls := "java/lang/StringLatin1", name := "toBytes", desc := "(C)[B" } : Jvm.MethodName) jdk_43_method_46_code (1 : Nat) (Option.some (Jvm.ClassFile.FieldType.array Jvm.ClassFile.FieldType.byte))).before args0 about1 = true := code_word (m := ⟨13, 3⟩) (meth := k13m3) (c := k13c3) (by decide +kernel) rfl rfl rfl (by decide +kernel)
set_option maxRecDepth 65536 in
theorem w_c23 : (Jvm.Cond.code ({ cls := "java/lang/String", name := "<init>", desc := "([BB)V" } : Jvm.MethodName) jdk_42_method_151_code (3 : Nat) (Option.none : Option Jvm.ClassFile.FieldType)).before args0 about1 = true := code_word (m := ⟨9, 11⟩) (meth := k9m11) (c := k9c11) (by decide +kernel) rfl rfl rfl (by decide +kernel)
set_option maxRecDepth 65536 in
theorem w_c24 : (Jvm.Cond.code ({ cls := "java/lang/StringBuilder", name := "<init>", desc := "()V" } : Jvm.MethodName) jdk_67_method_1_code (1 : Nat) (Option.none : Option Jvm.ClassFile.FieldType)).before args0 about1 = true := code_word (m := ⟨16, 0⟩) (meth := k16m0) (c := k16c0) (by decide +kernel) rfl rfl rfl (by decide +kernel)
set_option maxRecDepth 65536 in
theorem w_c25 : (Jvm.Cond.code ({ cls := "java/lang/AbstractStringBuilder", name := "<init>", desc := "(I)V" } : Jvm.MethodName) jdk_68_method_2_code (2 : Nat) (Option.none : Option Jvm.ClassFile.FieldType)).before args0 about1 = true := code_word (m := ⟨15, 1⟩) (meth := k15m1) (c := k15c1) (by decide +kernel) rfl rfl rfl (by decide +kernel)
set_option maxRecDepth 65536 in
theorem w_c26 : (Jvm.Cond.code ({ cls := "java/lang/StringBuilder", name := "append", desc := "(Ljava/lang/String;)Ljava/lang/StringBuilder;" } : Jvm.MethodName) jdk_67_method_7_code (2 : Nat) (Option.some (Jvm.ClassFile.FieldType.object "java/lang/StringBuilder"))).before args0 about1 = true := code_word (m := ⟨16, 1⟩) (meth := k16m1) (c := k16c1) (by decide +kernel) rfl rfl rfl (by decide +kernel)
set_option maxRecDepth 65536 in
theorem w_c27 : (Jvm.Cond.code ({ cls := "java/lang/AbstractStringBuilder", name := "append", desc := "(Ljava/lang/String;)Ljava/lang/AbstractStringBuilder;" } : Jvm.MethodName) jdk_68_method_22_code (3 : Nat) (Option.some (Jvm.ClassFile.FieldType.object "java/lang/AbstractStringBuilder"))).before args0 about1 = true := code_word (m := ⟨15, 4⟩) (meth := k15m4) (c := k15c4) (by decide +kernel) rfl rfl rfl (by decide +kernel)
set_option maxRecDepth 65536 in
theorem w_c28 : (Jvm.Cond.code ({ cls := "java/lang/String", name := "length", desc := "()I" } : Jvm.MethodName) jdk_42_method_54_code (1 : Nat) (Option.some Jvm.ClassFile.FieldType.int)).before args0 about1 = true := code_word (m := ⟨9, 3⟩) (meth := k9m3) (c := k9c3) (by decide +kernel) rfl rfl rfl (by decide +kernel)
set_option maxRecDepth 65536 in
theorem w_c29 : (Jvm.Cond.code ({ cls := "java/lang/String", name := "coder", desc := "()B" } : Jvm.MethodName) jdk_42_method_152_code (1 : Nat) (Option.some Jvm.ClassFile.FieldType.byte)).before args0 about1 = true := code_word (m := ⟨9, 12⟩) (meth := k9m12) (c := k9c12) (by decide +kernel) rfl rfl rfl (by decide +kernel)
set_option maxRecDepth 65536 in
theorem w_c30 : (Jvm.Cond.code ({ cls := "java/lang/AbstractStringBuilder", name := "ensureCapacityInternal", desc := "(I)V" } : Jvm.MethodName) jdk_68_method_9_code (3 : Nat) (Option.none : Option Jvm.ClassFile.FieldType)).before args0 about1 = true := code_word (m := ⟨15, 3⟩) (meth := k15m3) (c := k15c3) (by decide +kernel) rfl rfl rfl (by decide +kernel)
set_option maxRecDepth 65536 in
theorem w_c31 : (Jvm.Cond.code ({ cls := "java/lang/AbstractStringBuilder", name := "putStringAt", desc := "(ILjava/lang/String;)V" } : Jvm.MethodName) jdk_68_method_73_code (3 : Nat) (Option.none : Option Jvm.ClassFile.FieldType)).before args0 about1 = true := code_word (m := ⟨15, 8⟩) (meth := k15m8) (c := k15c8) (by decide +kernel) rfl rfl rfl (by decide +kernel)
set_option maxRecDepth 65536 in
theorem w_c32 : (Jvm.Cond.code ({ cls := "java/lang/AbstractStringBuilder", name := "inflateIfNeededFor", desc := "(Ljava/lang/String;)V" } : Jvm.MethodName) jdk_68_method_71_code (2 : Nat) (Option.none : Option Jvm.ClassFile.FieldType)).before args0 about1 = true := code_word (m := ⟨15, 7⟩) (meth := k15m7) (c := k15c7) (by decide +kernel) rfl rfl rfl (by decide +kernel)
set_option maxRecDepth 65536 in
theorem w_c33 : (Jvm.Cond.code ({ cls := "java/lang/String", name := "getBytes", desc := "([BIB)V" } : Jvm.MethodName) jdk_42_method_147_code (4 : Nat) (Option.none : Option Jvm.ClassFile.FieldType)).before args0 about1 = true := code_word (m := ⟨9, 8⟩) (meth := k9m8) (c := k9c8) (by decide +kernel) rfl rfl rfl (by decide +kernel)
set_option maxRecDepth 65536 in
theorem w_c34 : (Jvm.Cond.code ({ cls := "java/lang/StringBuilder", name := "toString", desc := "()Ljava/lang/String;" } : Jvm.MethodName) jdk_67_method_42_code (1 : Nat) (Option.some (Jvm.ClassFile.FieldType.object "java/lang/String"))).before args0 about1 = true := code_word (m := ⟨16, 2⟩) (meth := k16m2) (c := k16c2) (by decide +kernel) rfl rfl rfl (by decide +kernel)
set_option maxRecDepth 65536 in
theorem w_c35 : (Jvm.Cond.code ({ cls := "java/lang/String", name := "<init>", desc := "(Ljava/lang/StringBuilder;)V" } : Jvm.MethodName) jdk_42_method_53_code (2 : Nat) (Option.none : Option Jvm.ClassFile.FieldType)).before args0 about1 = true := code_word (m := ⟨9, 2⟩) (meth := k9m2) (c := k9c2) (by decide +kernel) rfl rfl rfl (by decide +kernel)
set_option maxRecDepth 65536 in
theorem w_c36 : (Jvm.Cond.code ({ cls := "java/lang/String", name := "<init>", desc := "(Ljava/lang/AbstractStringBuilder;Ljava/lang/Void;)V" } : Jvm.MethodName) jdk_42_method_150_code (5 : Nat) (Option.none : Option Jvm.ClassFile.FieldType)).before args0 about1 = true := code_word (m := ⟨9, 10⟩) (meth := k9m10) (c := k9c10) (by decide +kernel) rfl rfl rfl (by decide +kernel)
set_option maxRecDepth 65536 in
theorem w_c37 : (Jvm.Cond.code ({ cls := "java/lang/AbstractStringBuilder", name := "getValue", desc := "()[B" } : Jvm.MethodName) jdk_68_method_64_code (1 : Nat) (Option.some (Jvm.ClassFile.FieldType.array Jvm.ClassFile.FieldType.byte))).before args0 about1 = true := code_word (m := ⟨15, 5⟩) (meth := k15m5) (c := k15c5) (by decide +kernel) rfl rfl rfl (by decide +kernel)
set_option maxRecDepth 65536 in
theorem w_c38 : (Jvm.Cond.code ({ cls := "java/lang/StringBuilder", name := "length", desc := "()I" } : Jvm.MethodName) jdk_67_method_93_code (1 : Nat) (Option.some Jvm.ClassFile.FieldType.int)).before args0 about1 = true := code_word (m := ⟨16, 3⟩) (meth := k16m3) (c := k16c3) (by decide +kernel) rfl rfl rfl (by decide +kernel)
set_option maxRecDepth 65536 in
theorem w_c39 : (Jvm.Cond.code ({ cls := "java/lang/AbstractStringBuilder", name := "length", desc := "()I" } : Jvm.MethodName) jdk_68_method_6_code (1 : Nat) (Option.some Jvm.ClassFile.FieldType.int)).before args0 about1 = true := code_word (m := ⟨15, 2⟩) (meth := k15m2) (c := k15c2) (by decide +kernel) rfl rfl rfl (by decide +kernel)
set_option maxRecDepth 65536 in
theorem w_c40 : (Jvm.Cond.code ({ cls := "java/lang/AbstractStringBuilder", name := "isLatin1", desc := "()Z" } : Jvm.MethodName) jdk_68_method_68_code (1 : Nat) (Option.some Jvm.ClassFile.FieldType.boolean)).before args0 about1 = true := code_word (m := ⟨15, 6⟩) (meth := k15m6) (c := k15c6) (by decide +kernel) rfl rfl rfl (by decide +kernel)
set_option maxRecDepth 65536 in
theorem w_c41 : (Jvm.Cond.code ({ cls := "java/util/Arrays", name := "copyOfRange", desc := "([BII)[B" } : Jvm.MethodName) jdk_65_method_132_code (3 : Nat) (Option.some (Jvm.ClassFile.FieldType.array Jvm.ClassFile.FieldType.byte))).before args0 about1 = true := code_word (m := ⟨18, 2⟩) (meth := k18m2) (c := k18c2) (by decide +kernel) rfl rfl rfl (by decide +kernel)
set_option maxRecDepth 65536 in
theorem w_c42 : (Jvm.Cond.code ({ cls := "java/util/Arrays", name := "copyOfRangeByte", desc := "([BII)[B" } : Jvm.MethodName) jdk_65_method_133_code (5 : Nat) (Option.some (Jvm.ClassFile.FieldType.array Jvm.ClassFile.FieldType.byte))).before args0 about1 = true := code_word (m := ⟨18, 3⟩) (meth := k18m3) (c := k18c3) (by decide +kernel) rfl rfl rfl (by decide +kernel)
set_option maxRecDepth 65536 in
theorem w_c43 : (Jvm.Cond.code ({ cls := "java/util/Arrays", name := "checkLength", desc := "(II)V" } : Jvm.MethodName) jdk_65_method_131_code (2 : Nat) (Option.none : Option Jvm.ClassFile.FieldType)).before args0 about1 = true := code_word (m := ⟨18, 1⟩) (meth := k18m1) (c := k18c1) (by decide +kernel) rfl rfl rfl (by decide +kernel)
set_option maxRecDepth 65536 in
theorem w_c44 : (Jvm.Cond.code ({ cls := "java/lang/Math", name := "min", desc := "(II)I" } : Jvm.MethodName) jdk_29_method_69_code (2 : Nat) (Option.some Jvm.ClassFile.FieldType.int)).before args0 about1 = true := code_word (m := ⟨19, 1⟩) (meth := k19m1) (c := k19c1) (by decide +kernel) rfl rfl rfl (by decide +kernel)
set_option maxRecDepth 65536 in
theorem w_c45 : (Jvm.Cond.code ({ cls := "java/lang/String", name := "charAt", desc := "(I)C" } : Jvm.MethodName) jdk_42_method_56_code (2 : Nat) (Option.some Jvm.ClassFile.FieldType.char)).before args0 about1 = true := code_word (m := ⟨9, 5⟩) (meth := k9m5) (c := k9c5) (by decide +kernel) rfl rfl rfl (by decide +kernel)
set_option maxRecDepth 65536 in
theorem w_c46 : (Jvm.Cond.code ({ cls := "java/lang/String", name := "isLatin1", desc := "()Z" } : Jvm.MethodName) jdk_42_method_154_code (1 : Nat) (Option.some Jvm.ClassFile.FieldType.boolean)).before args0 about1 = true := code_word (m := ⟨9, 13⟩) (meth := k9m13) (c := k9c13) (by decide +kernel) rfl rfl rfl (by decide +kernel)
set_option maxRecDepth 65536 in
theorem w_c47 : (Jvm.Cond.code ({ cls := "java/lang/StringLatin1", name := "charAt", desc := "([BI)C" } : Jvm.MethodName) jdk_43_method_2_code (2 : Nat) (Option.some Jvm.ClassFile.FieldType.char)).before args0 about1 = true := code_word (m := ⟨13, 1⟩) (meth := k13m1) (c := k13c1) (by decide +kernel) rfl rfl rfl (by decide +kernel)
set_option maxRecDepth 65536 in
theorem w_c48 : (Jvm.Cond.code ({ cls := "java/lang/String", name := "checkIndex", desc := "(II)V" } : Jvm.MethodName) jdk_42_method_155_code (2 : Nat) (Option.none : Option Jvm.ClassFile.FieldType)).before args0 about1 = true := code_word (m := ⟨9, 14⟩) (meth := k9m14) (c := k9c14) (by decide +kernel) rfl rfl rfl (by decide +kernel)
set_option maxRecDepth 65536 in
theorem w_c49 : (Jvm.Cond.code ({ cls := "jdk/internal/util/Preconditions", name := "checkIndex", desc := "(IILjava/util/function/BiFunction;)I" } : Jvm.MethodName) jdk_41_method_11_code (3 : Nat) (Option.some Jvm.ClassFile.FieldType.int)).before args0 about1 = true := code_word (m := ⟨20, 1⟩) (meth := k20m1) (c := k20c1) (by decide +kernel) rfl rfl rfl (by decide +kernel)
def codes1 : List Jvm.Cond := [Jvm.Cond.code x code maxLocals ret, Jvm.Cond.code ({ cls := "com/example/tuplet/tuplet/OptionOfPinLaw", name := "kindOf", desc := "(I)Lcom/example/tuplet/tuplet/Commands$Kind;" } : Jvm.MethodName) method_2_code (2 : Nat) (Option.some (Jvm.ClassFile.FieldType.object "com/example/tuplet/tuplet/Commands$Kind")), Jvm.Cond.code ({ cls := "java/lang/String", name := "<init>", desc := "([C)V" } : Jvm.MethodName) jdk_42_method_3_code (2 : Nat) (Option.none : Option Jvm.ClassFile.FieldType), Jvm.Cond.code ({ cls := "java/lang/String", name := "<init>", desc := "([CIILjava/lang/Void;)V" } : Jvm.MethodName) jdk_42_method_149_code (6 : Nat) (Option.none : Option Jvm.ClassFile.FieldType), Jvm.Cond.code ({ cls := "java/lang/Object", name := "<init>", desc := "()V" } : Jvm.MethodName) object_method_1_code (1 : Nat) (Option.none : Option Jvm.ClassFile.FieldType), Jvm.Cond.code ({ cls := "java/lang/StringUTF16", name := "compress", desc := "([CII)[B" } : Jvm.MethodName) jdk_52_method_16_code (6 : Nat) (Option.some (Jvm.ClassFile.FieldType.array Jvm.ClassFile.FieldType.byte)), Jvm.Cond.code ({ cls := "java/lang/StringUTF16", name := "compress", desc := "([CI[BII)I" } : Jvm.MethodName) jdk_52_method_21_code (7 : Nat) (Option.some Jvm.ClassFile.FieldType.int), Jvm.Cond.code ({ cls := "java/lang/StringUTF16", name := "coderFromArrayLen", desc := "([BI)B" } : Jvm.MethodName) jdk_52_method_15_code (2 : Nat) (Option.some Jvm.ClassFile.FieldType.byte), Jvm.Cond.code ({ cls := "com/example/tuplet/tuplet/Commands$Option", name := "of", desc := "(Ljava/lang/String;Lcom/example/tuplet/tuplet/Commands$Kind;Ljava/lang/String;Ljava/lang/String;)Lcom/example/tuplet/tuplet/Commands$Option;" } : Jvm.MethodName) prog_6_method_3_code (4 : Nat) (Option.some (Jvm.ClassFile.FieldType.object "com/example/tuplet/tuplet/Commands$Option")), Jvm.Cond.code ({ cls := "com/example/tuplet/tuplet/Commands$Option", name := "<init>", desc := "(Ljava/lang/String;Lcom/example/tuplet/tuplet/Commands$Kind;Ljava/lang/String;Ljava/lang/String;ZLjava/lang/String;)V" } : Jvm.MethodName) prog_6_method_1_code (7 : Nat) (Option.none : Option Jvm.ClassFile.FieldType), Jvm.Cond.code ({ cls := "java/lang/Record", name := "<init>", desc := "()V" } : Jvm.MethodName) jdk_30_method_1_code (1 : Nat) (Option.none : Option Jvm.ClassFile.FieldType), Jvm.Cond.code ({ cls := "com/example/tuplet/tuplet/Commands$Option", name := "name", desc := "()Ljava/lang/String;" } : Jvm.MethodName) prog_6_method_10_code (1 : Nat) (Option.some (Jvm.ClassFile.FieldType.object "java/lang/String")), Jvm.Cond.code ({ cls := "java/lang/String", name := "equals", desc := "(Ljava/lang/Object;)Z" } : Jvm.MethodName) jdk_42_method_66_code (3 : Nat) (Option.some Jvm.ClassFile.FieldType.boolean), Jvm.Cond.code ({ cls := "com/example/tuplet/tuplet/Commands$Option", name := "kind", desc := "()Lcom/example/tuplet/tuplet/Commands$Kind;" } : Jvm.MethodName) prog_6_method_11_code (1 : Nat) (Option.some (Jvm.ClassFile.FieldType.object "com/example/tuplet/tuplet/Commands$Kind")), Jvm.Cond.code ({ cls := "com/example/tuplet/tuplet/Commands$Option", name := "label", desc := "()Ljava/lang/String;" } : Jvm.MethodName) prog_6_method_12_code (1 : Nat) (Option.some (Jvm.ClassFile.FieldType.object "java/lang/String")), Jvm.Cond.code ({ cls := "com/example/tuplet/tuplet/Commands$Option", name := "help", desc := "()Ljava/lang/String;" } : Jvm.MethodName) prog_6_method_13_code (1 : Nat) (Option.some (Jvm.ClassFile.FieldType.object "java/lang/String")), Jvm.Cond.code ({ cls := "com/example/tuplet/tuplet/Commands$Option", name := "required", desc := "()Z" } : Jvm.MethodName) prog_6_method_14_code (1 : Nat) (Option.some Jvm.ClassFile.FieldType.boolean), Jvm.Cond.code ({ cls := "com/example/tuplet/tuplet/Commands$Option", name := "byDefault", desc := "()Ljava/lang/String;" } : Jvm.MethodName) prog_6_method_15_code (1 : Nat) (Option.some (Jvm.ClassFile.FieldType.object "java/lang/String")), Jvm.Cond.code ({ cls := "com/example/tuplet/tuplet/Commands$Option", name := "shown", desc := "()Ljava/lang/String;" } : Jvm.MethodName) prog_6_method_6_code (1 : Nat) (Option.some (Jvm.ClassFile.FieldType.object "java/lang/String")), Jvm.Cond.code ({ cls := "java/lang/String", name := "isEmpty", desc := "()Z" } : Jvm.MethodName) jdk_42_method_55_code (1 : Nat) (Option.some Jvm.ClassFile.FieldType.boolean), Jvm.Cond.code ({ cls := "java/lang/String", name := "valueOf", desc := "(C)Ljava/lang/String;" } : Jvm.MethodName) jdk_42_method_139_code (1 : Nat) (Option.some (Jvm.ClassFile.FieldType.object "java/lang/String")), Jvm.Cond.code ({ cls := "java/lang/StringLatin1", name := "canEncode", desc := "(C)Z" } : Jvm.MethodName) jdk_43_method_3_code (1 : Nat) (Option.some Jvm.ClassFile.FieldType.boolean), Jvm.Cond.code ({ cls := "java/lang/StringLatin1", name := "toBytes", desc := "(C)[B" } : Jvm.MethodName) jdk_43_method_46_code (1 : Nat) (Option.some (Jvm.ClassFile.FieldType.array Jvm.ClassFile.FieldType.byte)), Jvm.Cond.code ({ cls := "java/lang/String", name := "<init>", desc := "([BB)V" } : Jvm.MethodName) jdk_42_method_151_code (3 : Nat) (Option.none : Option Jvm.ClassFile.FieldType), Jvm.Cond.code ({ cls := "java/lang/StringBuilder", name := "<init>", desc := "()V" } : Jvm.MethodName) jdk_67_method_1_code (1 : Nat) (Option.none : Option Jvm.ClassFile.FieldType), Jvm.Cond.code ({ cls := "java/lang/AbstractStringBuilder", name := "<init>", desc := "(I)V" } : Jvm.MethodName) jdk_68_method_2_code (2 : Nat) (Option.none : Option Jvm.ClassFile.FieldType), Jvm.Cond.code ({ cls := "java/lang/StringBuilder", name := "append", desc := "(Ljava/lang/String;)Ljava/lang/StringBuilder;" } : Jvm.MethodName) jdk_67_method_7_code (2 : Nat) (Option.some (Jvm.ClassFile.FieldType.object "java/lang/StringBuilder")), Jvm.Cond.code ({ cls := "java/lang/AbstractStringBuilder", name := "append", desc := "(Ljava/lang/String;)Ljava/lang/AbstractStringBuilder;" } : Jvm.MethodName) jdk_68_method_22_code (3 : Nat) (Option.some (Jvm.ClassFile.FieldType.object "java/lang/AbstractStringBuilder")), Jvm.Cond.code ({ cls := "java/lang/String", name := "length", desc := "()I" } : Jvm.MethodName) jdk_42_method_54_code (1 : Nat) (Option.some Jvm.ClassFile.FieldType.int), Jvm.Cond.code ({ cls := "java/lang/String", name := "coder", desc := "()B" } : Jvm.MethodName) jdk_42_method_152_code (1 : Nat) (Option.some Jvm.ClassFile.FieldType.byte), Jvm.Cond.code ({ cls := "java/lang/AbstractStringBuilder", name := "ensureCapacityInternal", desc := "(I)V" } : Jvm.MethodName) jdk_68_method_9_code (3 : Nat) (Option.none : Option Jvm.ClassFile.FieldType), Jvm.Cond.code ({ cls := "java/lang/AbstractStringBuilder", name := "putStringAt", desc := "(ILjava/lang/String;)V" } : Jvm.MethodName) jdk_68_method_73_code (3 : Nat) (Option.none : Option Jvm.ClassFile.FieldType), Jvm.Cond.code ({ cls := "java/lang/AbstractStringBuilder", name := "inflateIfNeededFor", desc := "(Ljava/lang/String;)V" } : Jvm.MethodName) jdk_68_method_71_code (2 : Nat) (Option.none : Option Jvm.ClassFile.FieldType), Jvm.Cond.code ({ cls := "java/lang/String", name := "getBytes", desc := "([BIB)V" } : Jvm.MethodName) jdk_42_method_147_code (4 : Nat) (Option.none : Option Jvm.ClassFile.FieldType), Jvm.Cond.code ({ cls := "java/lang/StringBuilder", name := "toString", desc := "()Ljava/lang/String;" } : Jvm.MethodName) jdk_67_method_42_code (1 : Nat) (Option.some (Jvm.ClassFile.FieldType.object "java/lang/String")), Jvm.Cond.code ({ cls := "java/lang/String", name := "<init>", desc := "(Ljava/lang/StringBuilder;)V" } : Jvm.MethodName) jdk_42_method_53_code (2 : Nat) (Option.none : Option Jvm.ClassFile.FieldType), Jvm.Cond.code ({ cls := "java/lang/String", name := "<init>", desc := "(Ljava/lang/AbstractStringBuilder;Ljava/lang/Void;)V" } : Jvm.MethodName) jdk_42_method_150_code (5 : Nat) (Option.none : Option Jvm.ClassFile.FieldType), Jvm.Cond.code ({ cls := "java/lang/AbstractStringBuilder", name := "getValue", desc := "()[B" } : Jvm.MethodName) jdk_68_method_64_code (1 : Nat) (Option.some (Jvm.ClassFile.FieldType.array Jvm.ClassFile.FieldType.byte)), Jvm.Cond.code ({ cls := "java/lang/StringBuilder", name := "length", desc := "()I" } : Jvm.MethodName) jdk_67_method_93_code (1 : Nat) (Option.some Jvm.ClassFile.FieldType.int), Jvm.Cond.code ({ cls := "java/lang/AbstractStringBuilder", name := "length", desc := "()I" } : Jvm.MethodName) jdk_68_method_6_code (1 : Nat) (Option.some Jvm.ClassFile.FieldType.int), Jvm.Cond.code ({ cls := "java/lang/AbstractStringBuilder", name := "isLatin1", desc := "()Z" } : Jvm.MethodName) jdk_68_method_68_code (1 : Nat) (Option.some Jvm.ClassFile.FieldType.boolean), Jvm.Cond.code ({ cls := "java/util/Arrays", name := "copyOfRange", desc := "([BII)[B" } : Jvm.MethodName) jdk_65_method_132_code (3 : Nat) (Option.some (Jvm.ClassFile.FieldType.array Jvm.ClassFile.FieldType.byte)), Jvm.Cond.code ({ cls := "java/util/Arrays", name := "copyOfRangeByte", desc := "([BII)[B" } : Jvm.MethodName) jdk_65_method_133_code (5 : Nat) (Option.some (Jvm.ClassFile.FieldType.array Jvm.ClassFile.FieldType.byte)), Jvm.Cond.code ({ cls := "java/util/Arrays", name := "checkLength", desc := "(II)V" } : Jvm.MethodName) jdk_65_method_131_code (2 : Nat) (Option.none : Option Jvm.ClassFile.FieldType), Jvm.Cond.code ({ cls := "java/lang/Math", name := "min", desc := "(II)I" } : Jvm.MethodName) jdk_29_method_69_code (2 : Nat) (Option.some Jvm.ClassFile.FieldType.int), Jvm.Cond.code ({ cls := "java/lang/String", name := "charAt", desc := "(I)C" } : Jvm.MethodName) jdk_42_method_56_code (2 : Nat) (Option.some Jvm.ClassFile.FieldType.char), Jvm.Cond.code ({ cls := "java/lang/String", name := "isLatin1", desc := "()Z" } : Jvm.MethodName) jdk_42_method_154_code (1 : Nat) (Option.some Jvm.ClassFile.FieldType.boolean), Jvm.Cond.code ({ cls := "java/lang/StringLatin1", name := "charAt", desc := "([BI)C" } : Jvm.MethodName) jdk_43_method_2_code (2 : Nat) (Option.some Jvm.ClassFile.FieldType.char), Jvm.Cond.code ({ cls := "java/lang/String", name := "checkIndex", desc := "(II)V" } : Jvm.MethodName) jdk_42_method_155_code (2 : Nat) (Option.none : Option Jvm.ClassFile.FieldType), Jvm.Cond.code ({ cls := "jdk/internal/util/Preconditions", name := "checkIndex", desc := "(IILjava/util/function/BiFunction;)I" } : Jvm.MethodName) jdk_41_method_11_code (3 : Nat) (Option.some Jvm.ClassFile.FieldType.int)]
set_option maxRecDepth 65536 in
theorem codes_eq : words1.filter isCode = codes1 := rfl
theorem w_codes : ∀ c ∈ words1.filter isCode, c.before args0 about1 = true := by
  rw [codes_eq]
  intro c hc
  simp only [codes1, List.mem_cons, List.not_mem_nil, or_false] at hc
  rcases hc with rfl | rfl | rfl | rfl | rfl | rfl | rfl | rfl | rfl | rfl | rfl | rfl | rfl | rfl | rfl | rfl | rfl | rfl | rfl | rfl | rfl | rfl | rfl | rfl | rfl | rfl | rfl | rfl | rfl | rfl | rfl | rfl | rfl | rfl | rfl | rfl | rfl | rfl | rfl | rfl | rfl | rfl | rfl | rfl | rfl | rfl | rfl | rfl | rfl | rfl
  · exact w_c0
  · exact w_c1
  · exact w_c2
  · exact w_c3
  · exact w_c4
  · exact w_c5
  · exact w_c6
  · exact w_c7
  · exact w_c8
  · exact w_c9
  · exact w_c10
  · exact w_c11
  · exact w_c12
  · exact w_c13
  · exact w_c14
  · exact w_c15
  · exact w_c16
  · exact w_c17
  · exact w_c18
  · exact w_c19
  · exact w_c20
  · exact w_c21
  · exact w_c22
  · exact w_c23
  · exact w_c24
  · exact w_c25
  · exact w_c26
  · exact w_c27
  · exact w_c28
  · exact w_c29
  · exact w_c30
  · exact w_c31
  · exact w_c32
  · exact w_c33
  · exact w_c34
  · exact w_c35
  · exact w_c36
  · exact w_c37
  · exact w_c38
  · exact w_c39
  · exact w_c40
  · exact w_c41
  · exact w_c42
  · exact w_c43
  · exact w_c44
  · exact w_c45
  · exact w_c46
  · exact w_c47
  · exact w_c48
  · exact w_c49
set_option maxRecDepth 65536 in
theorem w_t1 : (words1.take 24).all (fun c => isCode c || c.before args0 about1) = true := by decide +kernel
set_option maxRecDepth 65536 in
theorem w_t2 : ((words1.drop 24).take 24).all (fun c => isCode c || c.before args0 about1) = true := by decide +kernel
set_option maxRecDepth 65536 in
theorem w_t3 : (((words1.drop 24).drop 24).take 24).all (fun c => isCode c || c.before args0 about1) = true := by decide +kernel
set_option maxRecDepth 65536 in
theorem w_t4 : ((((words1.drop 24).drop 24).drop 24).take 24).all (fun c => isCode c || c.before args0 about1) = true := by decide +kernel
set_option maxRecDepth 65536 in
theorem w_t5 : (((((words1.drop 24).drop 24).drop 24).drop 24).take 24).all (fun c => isCode c || c.before args0 about1) = true := by decide +kernel
set_option maxRecDepth 65536 in
theorem w_t6 : ((((((words1.drop 24).drop 24).drop 24).drop 24).drop 24).take 24).all (fun c => isCode c || c.before args0 about1) = true := by decide +kernel
set_option maxRecDepth 65536 in
theorem w_t7 : (((((((words1.drop 24).drop 24).drop 24).drop 24).drop 24).drop 24).take 24).all (fun c => isCode c || c.before args0 about1) = true := by decide +kernel
set_option maxRecDepth 65536 in
theorem w_t8 : ((((((((words1.drop 24).drop 24).drop 24).drop 24).drop 24).drop 24).drop 24).take 24).all (fun c => isCode c || c.before args0 about1) = true := by decide +kernel
set_option maxRecDepth 65536 in
theorem w_t9 : (((((((((words1.drop 24).drop 24).drop 24).drop 24).drop 24).drop 24).drop 24).drop 24).take 24).all (fun c => isCode c || c.before args0 about1) = true := by decide +kernel
set_option maxRecDepth 65536 in
theorem w_t10 : ((((((((((words1.drop 24).drop 24).drop 24).drop 24).drop 24).drop 24).drop 24).drop 24).drop 24).take 24).all (fun c => isCode c || c.before args0 about1) = true := by decide +kernel
set_option maxRecDepth 65536 in
theorem w_t11 : (((((((((((words1.drop 24).drop 24).drop 24).drop 24).drop 24).drop 24).drop 24).drop 24).drop 24).drop 24).take 24).all (fun c => isCode c || c.before args0 about1) = true := by decide +kernel
set_option maxRecDepth 65536 in
theorem w_t12 : (((((((((((words1.drop 24).drop 24).drop 24).drop 24).drop 24).drop 24).drop 24).drop 24).drop 24).drop 24).drop 24).all (fun c => isCode c || c.before args0 about1) = true := by decide +kernel
theorem w_tables : (allAtoms (Jvm.Cond.code x code maxLocals ret :: tables_1)).before args0 about1 = true := by
  rw [allAtoms_all]
  show words1.all (fun c => c.before args0 about1) = true
  refine all_split ?_ w_codes
  rw [← List.take_append_drop 24 words1, List.all_append, w_t1, ← List.take_append_drop 24 (words1.drop 24), List.all_append, w_t2, ← List.take_append_drop 24 ((words1.drop 24).drop 24), List.all_append, w_t3, ← List.take_append_drop 24 (((words1.drop 24).drop 24).drop 24), List.all_append, w_t4, ← List.take_append_drop 24 ((((words1.drop 24).drop 24).drop 24).drop 24), List.all_append, w_t5, ← List.take_append_drop 24 (((((words1.drop 24).drop 24).drop 24).drop 24).drop 24), List.all_append, w_t6, ← List.take_append_drop 24 ((((((words1.drop 24).drop 24).drop 24).drop 24).drop 24).drop 24), List.all_append, w_t7, ← List.take_append_drop 24 (((((((words1.drop 24).drop 24).drop 24).drop 24).drop 24).drop 24).drop 24), List.all_append, w_t8, ← List.take_append_drop 24 ((((((((words1.drop 24).drop 24).drop 24).drop 24).drop 24).drop 24).drop 24).drop 24), List.all_append, w_t9, ← List.take_append_drop 24 (((((((((words1.drop 24).drop 24).drop 24).drop 24).drop 24).drop 24).drop 24).drop 24).drop 24), List.all_append, w_t10, ← List.take_append_drop 24 ((((((((((words1.drop 24).drop 24).drop 24).drop 24).drop 24).drop 24).drop 24).drop 24).drop 24).drop 24), List.all_append, w_t11, w_t12]
  rfl
set_option maxRecDepth 65536 in
theorem w_rest : rest_1_c.before args0 about1 = true := by decide +kernel
set_option maxRecDepth 65536 in
theorem w_case : (Jvm.Cond.and given_1 narrow_1).before args0 about1 = true := by decide +kernel
set_option maxRecDepth 65536 in
theorem w_consts : constsHeld consts_1 about1 := Jvm.Lit.constsHeldB_iff.mp (by decide +kernel)
theorem w_applies : (headSpec (Jvm.Cond.code x code maxLocals ret :: tables_1) room_1).applies x e0.platform about1 = true :=
  (Spec.applies_iff w_frames).mpr ⟨w_running, w_runnable, w_alone, w_named, w_hears, w_ripe, w_room, w_tables⟩
theorem atStart : AtStart classFile x code maxLocals ret World_1 tables_1 room_1 Calls_1 rest_1 Pre_1 launch0 p0 e0 about1 theMethod args0 below0 :=
  ⟨lists_1, trivial, launch0.admits_env _ _ _, launch0.least_env, fairChoices_fair.cas, fairChoices_fair.clock, w_frames, w_args, w_heap, w_applies, ⟨w_consts, trivial⟩, w_rest, w_case⟩
end start1
theorem witness_1 : WitnessClaimed_1 := ⟨start1.p0, start1.e0, start1.about1, start1.theMethod, start1.args0, start1.below0, start1.atStart⟩
end Jvm.Pilot.@@N@@
