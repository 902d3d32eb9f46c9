import JvmDerived
import JvmDerived.Pilot.@@N@@Statement
import JvmDerived.Pilot.@@N@@Code
set_option linter.unusedVariables false
set_option linter.unusedSimpArgs false
/- laws to paste: Road.backV, Road.empW, Road.codOf (cut by pick.py; bodies as the Statement names them) -/
namespace Jvm.Pilot.@@N@@
namespace StrChars
open Jvm Sem ClassFile Op Lib Jvm.Stand Jvm.Free.XT Jvm.Free.ALB Jvm.Free.JM Jvm.Free
open Jvm.Lib.Cold (StaticIs)
/-- a char array whose places are chars -/
def Ch (a : Addr) (A : Cell) (U : State) : Prop := Arr .char a A U ∧ Typed .char A
theorem Ch.mv {a : Addr} {A : Cell} {U U' : State} (h : Ch a A U) (hal : U.vm.Alike U'.vm) (hh : U'.heap = U.heap) : Ch a A U' := ⟨h.1.mv hal hh, h.2⟩
theorem Ch.keep {a : Addr} {A : Cell} {U U' : State} (h : Ch a A U) (hal : U.vm.Alike U'.vm) (hk : U'.heap[a]? = some A) : Ch a A U' := ⟨h.1.keep hal hk, h.2⟩
/-- what place i of a char[]'s cell holds -/
def cv (A : Cell) (i : Nat) : Int32 := match A.slots[i]? with | some (.int x) => x | _ => 0
theorem Ch.get {a : Addr} {A : Cell} {U : State} (h : Ch a A U) {i : Nat} (hi : i < A.slots.size) : A.slots[i]? = some (.int (cv A i)) := by
  have e := Array.getElem?_eq_getElem hi
  have f := h.2 i _ e
  unfold cv; rw [e]
  generalize A.slots[i] = v at f
  cases v <;> simp [fits] at f ⊢
/-- the byte that i2b leaves of a char -/
def lo8 (x : Int32) : Int32 := x.toInt8.toInt32
theorem fits_lo8 (y : Int32) : fits .byte (.int (lo8 y)) = true := by
  have h1 := y.toInt8.le_toInt
  have h2 := y.toInt8.toInt_lt
  simp only [lo8, fits, Bool.and_eq_true, decide_eq_true_eq, Int32.le_iff_toInt_le, Int8.toInt_toInt32, show (-128 : Int32).toInt = -128 from by decide, show (127 : Int32).toInt = 127 from by decide]
  omega
/-- A' is A but that each place j of lo .. hi - 1 holds f j -/
def Laid (A A' : Cell) (lo hi : Nat) (f : Nat → Value) : Prop := A'.cls = A.cls ∧ A'.vm = A.vm ∧ A'.slots.size = A.slots.size ∧ ∀ i, A'.slots[i]? = if lo ≤ i ∧ i < hi then some (f i) else A.slots[i]?
theorem Laid.zero (A : Cell) (lo : Nat) (f : Nat → Value) : Laid A A lo (lo + 0) f := ⟨rfl, rfl, rfl, fun i => by rw [if_neg (by omega)]⟩
theorem Laid.step {A Ak : Cell} {lo k : Nat} {f : Nat → Value} {v : Value} (h : Laid A Ak lo k f) (hlo : lo ≤ k) (hk : k < Ak.slots.size) (hv : v = f k) : Laid A (Ak.setSlot k v) lo (k + 1) f := by
  refine ⟨h.1, h.2.1, by simpa [Cell.setSlot] using h.2.2.1, fun i => ?_⟩
  by_cases e : k = i
  · subst e; rw [Cell.slots_setSlot_self v hk, if_pos (by omega), hv]
  · rw [Cell.slots_setSlot_ne v e, h.2.2.2 i]
    by_cases q : lo ≤ i ∧ i < k
    · rw [if_pos q, if_pos (by omega)]
    · rw [if_neg q, if_neg (by omega)]
def U16 : String := "java/lang/StringUTF16"
namespace Cmp5
def yN : MethodName := ⟨"java/lang/StringUTF16", "compress", "([CI[BII)I"⟩
abbrev yB : ByteArray := jdk_52_method_21_code
theorem d0 : decode yB 0 = .ok (.iconst 0, 1) := by decide +kernel
theorem d1 : decode yB 1 = .ok (.istore 5, 2) := by decide +kernel
theorem d3 : decode yB 3 = .ok (.iload 5, 2) := by decide +kernel
theorem d5 : decode yB 5 = .ok (.iload 4, 2) := by decide +kernel
theorem d7 : decode yB 7 = .ok (.if_icmp (.ge) 37, 3) := by decide +kernel
theorem d10 : decode yB 10 = .ok (.aload_n 0, 1) := by decide +kernel
theorem d11 : decode yB 11 = .ok (.iload_n 1, 1) := by decide +kernel
theorem d12 : decode yB 12 = .ok (.caload, 1) := by decide +kernel
theorem d13 : decode yB 13 = .ok (.istore 6, 2) := by decide +kernel
theorem d15 : decode yB 15 = .ok (.iload 6, 2) := by decide +kernel
theorem d17 : decode yB 17 = .ok (.sipush 255, 3) := by decide +kernel
theorem d20 : decode yB 20 = .ok (.if_icmp (.le) 6, 3) := by decide +kernel
theorem d26 : decode yB 26 = .ok (.aload_n 2, 1) := by decide +kernel
theorem d27 : decode yB 27 = .ok (.iload_n 3, 1) := by decide +kernel
theorem d28 : decode yB 28 = .ok (.iload 6, 2) := by decide +kernel
theorem d30 : decode yB 30 = .ok (.i2b, 1) := by decide +kernel
theorem d31 : decode yB 31 = .ok (.bastore, 1) := by decide +kernel
theorem d32 : decode yB 32 = .ok (.iinc 1 1, 3) := by decide +kernel
theorem d35 : decode yB 35 = .ok (.iinc 3 1, 3) := by decide +kernel
theorem d38 : decode yB 38 = .ok (.iinc 5 1, 3) := by decide +kernel
theorem d41 : decode yB 41 = .ok (.goto (-38), 3) := by decide +kernel
theorem d44 : decode yB 44 = .ok (.iload 4, 2) := by decide +kernel
theorem d46 : decode yB 46 = .ok (.ireturn, 1) := by decide +kernel
def site : List Cond := []
def tab : Cond := tabOf yN yB 7 (some .int) site
def P (b : Addr) (A : Cell) (d : Addr) (B : Cell) (o q len : Nat) (args : Array Value) (s : State) : Prop := args = #[.ref b, .int (Int32.ofNat o), .ref d, .int (Int32.ofNat q), .int (Int32.ofNat len)] ∧ Ch b A s ∧ Arr .byte d B s ∧ b ≠ d ∧ o + len ≤ A.slots.size ∧ q + len ≤ B.slots.size ∧ ∀ i, i < len → ¬ 255 < cv A (o + i)
def E (b : Addr) (A : Cell) (d : Addr) (B : Cell) (o q len : Nat) (r : Option Value) (s u : State) : Prop := r = some (.int (Int32.ofNat len)) ∧ ∃ B', Put d B' s u ∧ Laid B B' q (q + len) (fun j => Value.int (lo8 (cv A (o + (j - q)))))
/-- no char of the range above 255: len; the places written hold each char's low byte -/
theorem law (l : Launch) (b : Addr) (A : Cell) (d : Addr) (B : Cell) (o q len : Nat) : Law l yN 5 5 0 0 yB 7 (some .int) site (P b A d B o q len) (E b A d B o q len) (copyLocs d q len) 0 0 := by
  refine Law.of_walk (plainFor_of_name (by decide +kernel)) (by decide +kernel) (by decide +kernel) (by decide) (fun _ _ h => by rw [h.1]; rfl) (fun _ U U' hal hh h => ⟨h.1, h.2.1.mv hal hh, h.2.2.1.mv hal hh, h.2.2.2⟩) (fun r U U' V V' h1 hal h2 h => ⟨h.1, h.2.elim fun B' q => ⟨B', q.1.mv h1 h2, q.2⟩⟩) ?_
  intro p e s m args below meth c s₁ X0 hexec hbytes hml hret hlk hnm hown hh0 W hP
  obtain ⟨rfl, hA, hB, hne, l1, l2, hp⟩ := hP
  have c1 : Steps p.tables e below (s₁.setTop (entryFrame m #[.ref b, .int (Int32.ofNat o), .ref d, .int (Int32.ofNat q), .int (Int32.ofNat len)] 7)) (s₁.setTop (mkF m 0 #[.val (.ref b), .val (.int (Int32.ofNat o)), .val (.ref d), .val (.int (Int32.ofNat q)), .val (.int (Int32.ofNat len)), .unset, .unset] [])) := entry rfl
  have hA0 := hA.1.mv X0.warmed.alike hh0
  have hB0 := hB.mv X0.warmed.alike hh0
  have a31 := hA.1.2.2.2
  have c2 : Steps p.tables e below (s₁.setTop (entryFrame m #[.ref b, .int (Int32.ofNat o), .ref d, .int (Int32.ofNat q), .int (Int32.ofNat len)] 7)) (s₁.setTop (mkF m 3 #[.val (.ref b), .val (.int (Int32.ofNat o)), .val (.ref d), .val (.int (Int32.ofNat q)), .val (.int (Int32.ofNat len)), .val (.int 0), .unset] [])) := c1.trans (by
    refine iconstV X0.here hexec rfl 0 (hb hbytes d0) (by decide) ?_
    refine XS.istore X0.here hexec rfl (hb hbytes d1) rfl rfl ?_
    exact Steps.refl _)
  have loop : ∀ (r i : Nat), i + r = len → ∀ (z : Slot), (z = .unset ∨ ∃ w, z = .val w ∧ w.category = 1) → ∀ (Tl : State) (Bk : Cell), Stand p l e { frames := 0, locals := 0, cells := 0, slots := 0 } s m #[.ref b, .int (Int32.ofNat o), .ref d, .int (Int32.ofNat q), .int (Int32.ofNat len)] below meth c Tl ([] ++ copyLocs d q i) 0 0 → Put d Bk s₁ Tl → Laid B Bk q (q + i) (fun j => Value.int (lo8 (cv A (o + (j - q))))) →
      Steps p.tables e below (s₁.setTop (entryFrame m #[.ref b, .int (Int32.ofNat o), .ref d, .int (Int32.ofNat q), .int (Int32.ofNat len)] 7)) (Tl.setTop (mkF m 3 #[.val (.ref b), .val (.int (Int32.ofNat (o + i))), .val (.ref d), .val (.int (Int32.ofNat (q + i))), .val (.int (Int32.ofNat len)), .val (.int (Int32.ofNat i)), z] [])) → ∃ (T' : State) (B' : Cell) (z' : Slot), Stand p l e { frames := 0, locals := 0, cells := 0, slots := 0 } s m #[.ref b, .int (Int32.ofNat o), .ref d, .int (Int32.ofNat q), .int (Int32.ofNat len)] below meth c T' ([] ++ copyLocs d q len) 0 0 ∧ Put d B' s₁ T' ∧ Laid B B' q (q + len) (fun j => Value.int (lo8 (cv A (o + (j - q))))) ∧
      Steps p.tables e below (s₁.setTop (entryFrame m #[.ref b, .int (Int32.ofNat o), .ref d, .int (Int32.ofNat q), .int (Int32.ofNat len)] 7)) (T'.setTop (mkF m 3 #[.val (.ref b), .val (.int (Int32.ofNat (o + len))), .val (.ref d), .val (.int (Int32.ofNat (q + len))), .val (.int (Int32.ofNat len)), .val (.int (Int32.ofNat len)), z'] [])) := by
    intro r
    induction r with
    | zero =>
      intro i hi z hz Tl Bk Xl pl fl cl
      have hil : i = len := by omega
      rw [hil] at Xl fl cl
      exact ⟨Tl, Bk, z, Xl, pl, fl, cl⟩
    | succ r ih =>
      intro i hi z hz Tl Bk Xl pl fl cl
      have all := X0.warmed.alike.symm.trans Xl.warmed.alike
      have hAl := hA0.keep all (pl.other hne hA0.1)
      have hBk := hB0.like all pl.1 fl.1 fl.2.1 fl.2.2.1
      have hlt : q + i < Bk.slots.size := by rw [fl.2.2.1]; omega
      have c3 : Steps p.tables e below (s₁.setTop (entryFrame m #[.ref b, .int (Int32.ofNat o), .ref d, .int (Int32.ofNat q), .int (Int32.ofNat len)] 7)) (Tl.setTop (mkF m 12 #[.val (.ref b), .val (.int (Int32.ofNat (o + i))), .val (.ref d), .val (.int (Int32.ofNat (q + i))), .val (.int (Int32.ofNat len)), .val (.int (Int32.ofNat i)), z] [.int (Int32.ofNat (o + i)), .ref b])) := cl.trans (by
        refine XS.iload Xl.here hexec rfl (hb hbytes d3) rfl ?_
        refine XS.iload Xl.here hexec rfl (hb hbytes d5) rfl ?_
        refine XS.icmpNo Xl.here hexec rfl (hb hbytes d7) rfl (ii_ge_f (lt32 (by omega) (by omega))) ?_
        refine XS.aloadN Xl.here hexec rfl (hb hbytes d10) rfl rfl ?_
        refine XS.iloadN Xl.here hexec rfl (hb hbytes d11) rfl ?_
        exact Steps.refl _)
      have c4 : Steps p.tables e below (s₁.setTop (entryFrame m #[.ref b, .int (Int32.ofNat o), .ref d, .int (Int32.ofNat q), .int (Int32.ofNat len)] 7)) (Tl.setTop (mkF m 13 #[.val (.ref b), .val (.int (Int32.ofNat (o + i))), .val (.ref d), .val (.int (Int32.ofNat (q + i))), .val (.int (Int32.ofNat len)), .val (.int (Int32.ofNat i)), z] [.int (cv A (o + i))])) := c3.trans (by
        refine Xl.aget hexec hAl rfl (hA.get (i := o + i) (by omega)) rfl rfl (hb hbytes d12) ?_
        exact Steps.refl _)
      have c5 : Steps p.tables e below (s₁.setTop (entryFrame m #[.ref b, .int (Int32.ofNat o), .ref d, .int (Int32.ofNat q), .int (Int32.ofNat len)] 7)) (Tl.setTop (mkF m 15 #[.val (.ref b), .val (.int (Int32.ofNat (o + i))), .val (.ref d), .val (.int (Int32.ofNat (q + i))), .val (.int (Int32.ofNat len)), .val (.int (Int32.ofNat i)), .val (.int (cv A (o + i)))] [])) := c4.trans (by
        refine XS.istoreS Xl.here hexec rfl (hb hbytes d13) rfl rfl hz ?_
        exact Steps.refl _)
      have c6 : Steps p.tables e below (s₁.setTop (entryFrame m #[.ref b, .int (Int32.ofNat o), .ref d, .int (Int32.ofNat q), .int (Int32.ofNat len)] 7)) (Tl.setTop (mkF m 31 #[.val (.ref b), .val (.int (Int32.ofNat (o + i))), .val (.ref d), .val (.int (Int32.ofNat (q + i))), .val (.int (Int32.ofNat len)), .val (.int (Int32.ofNat i)), .val (.int (cv A (o + i)))] [.int (lo8 (cv A (o + i))), .int (Int32.ofNat (q + i)), .ref d])) := c5.trans (by
        refine XS.iload Xl.here hexec rfl (hb hbytes d15) rfl ?_
        refine sipushV Xl.here hexec rfl 255 (hb hbytes d17) (by decide) ?_
        refine XS.icmpYes Xl.here hexec rfl (pc0 := 20) rfl (hb hbytes d20) rfl (ii_le_t (hp i (by omega))) (by decide) rfl ?_
        refine XS.aloadN Xl.here hexec rfl (hb hbytes d26) rfl rfl ?_
        refine XS.iloadN Xl.here hexec rfl (hb hbytes d27) rfl ?_
        refine XS.iload Xl.here hexec rfl (hb hbytes d28) rfl ?_
        refine i2b Xl.here hexec rfl (hb hbytes d30) rfl ?_
        exact Steps.refl _)
      obtain ⟨T7, X7, p7, st7⟩ := Xl.aput hexec hBk rfl hlt rfl (fits_lo8 (cv A (o + i))) (g := (mkF m 31 #[.val (.ref b), .val (.int (Int32.ofNat (o + i))), .val (.ref d), .val (.int (Int32.ofNat (q + i))), .val (.int (Int32.ofNat len)), .val (.int (Int32.ofNat i)), .val (.int (cv A (o + i)))] [.int (lo8 (cv A (o + i))), .int (Int32.ofNat (q + i)), .ref d])) rfl (rest := []) rfl (hb hbytes d31)
      have c8 : Steps p.tables e below (s₁.setTop (entryFrame m #[.ref b, .int (Int32.ofNat o), .ref d, .int (Int32.ofNat q), .int (Int32.ofNat len)] 7)) (T7.setTop (mkF m 32 #[.val (.ref b), .val (.int (Int32.ofNat (o + i))), .val (.ref d), .val (.int (Int32.ofNat (q + i))), .val (.int (Int32.ofNat len)), .val (.int (Int32.ofNat i)), .val (.int (cv A (o + i)))] [])) := c6.trans (st7 _ (Steps.refl _))
      have c9 : Steps p.tables e below (s₁.setTop (entryFrame m #[.ref b, .int (Int32.ofNat o), .ref d, .int (Int32.ofNat q), .int (Int32.ofNat len)] 7)) (T7.setTop (mkF m 3 #[.val (.ref b), .val (.int (Int32.ofNat (o + i) + 1)), .val (.ref d), .val (.int (Int32.ofNat (q + i) + 1)), .val (.int (Int32.ofNat len)), .val (.int (Int32.ofNat i + 1)), .val (.int (cv A (o + i)))] [])) := c8.trans (by
        refine iincV X7.here hexec rfl 1 (hb hbytes d32) (by decide) rfl rfl ?_
        refine iincV X7.here hexec rfl 1 (hb hbytes d35) (by decide) rfl rfl ?_
        refine iincV X7.here hexec rfl 1 (hb hbytes d38) (by decide) rfl rfl ?_
        refine XS.goto X7.here hexec rfl (pc0 := 41) rfl (hb hbytes d41) (by decide) rfl ?_
        exact Steps.refl _)
      have c10 : Steps p.tables e below (s₁.setTop (entryFrame m #[.ref b, .int (Int32.ofNat o), .ref d, .int (Int32.ofNat q), .int (Int32.ofNat len)] 7)) (T7.setTop (mkF m 3 #[.val (.ref b), .val (.int (Int32.ofNat (o + (i + 1)))), .val (.ref d), .val (.int (Int32.ofNat (q + (i + 1)))), .val (.int (Int32.ofNat len)), .val (.int (Int32.ofNat (i + 1))), .val (.int (cv A (o + i)))] [])) := by
        have := c9
        rw [succ32, succ32, succ32] at this
        exact this
      exact ih (i + 1) (by omega) _ (Or.inr ⟨_, rfl, rfl⟩) T7 _ (by rw [copyLocs_step, ← List.append_assoc]; exact X7) (pl.trans p7) (fl.step (by omega) hlt (by simp)) c10
  obtain ⟨T9, B9, z9, X9, p9, f9, g9⟩ := loop len 0 (by omega) .unset (Or.inl rfl) s₁ B (by simpa [copyLocs] using X0) ⟨hB0.1, fun _ _ => rfl, rfl⟩ (Laid.zero _ _ _) c2
  have c11 : Steps p.tables e below (s₁.setTop (entryFrame m #[.ref b, .int (Int32.ofNat o), .ref d, .int (Int32.ofNat q), .int (Int32.ofNat len)] 7)) (T9.setTop (mkF m 46 #[.val (.ref b), .val (.int (Int32.ofNat (o + len))), .val (.ref d), .val (.int (Int32.ofNat (q + len))), .val (.int (Int32.ofNat len)), .val (.int (Int32.ofNat len)), z9] [.int (Int32.ofNat len)])) := g9.trans (by
    refine XS.iload X9.here hexec rfl (hb hbytes d3) rfl ?_
    refine XS.iload X9.here hexec rfl (hb hbytes d5) rfl ?_
    refine XS.icmpYes X9.here hexec rfl (pc0 := 7) rfl (hb hbytes d7) rfl (ii_ge_t (nlt32 (by omega) (Nat.le_refl _))) (by decide) rfl ?_
    refine XS.iload X9.here hexec rfl (hb hbytes d44) rfl ?_
    exact Steps.refl _)
  exact ⟨T9, some (.int (Int32.ofNat len)), _, _, _, X9, by simp, rfl, rfl, (fun h => by cases h), ⟨rfl, B9, p9.from hh0, f9⟩, fun fs hl => c11.trans (X9.ireturnOut hexec hret rfl (Or.inl rfl) (hb hbytes d46) hl)⟩
end Cmp5
namespace Cmp3
def yN : MethodName := ⟨"java/lang/StringUTF16", "compress", "([CII)[B"⟩
abbrev yB : ByteArray := jdk_52_method_16_code
theorem d0 : decode yB 0 = .ok (.iload_n 2, 1) := by decide +kernel
theorem d1 : decode yB 1 = .ok (.newarray .byte, 2) := by decide +kernel
theorem d3 : decode yB 3 = .ok (.astore_n 3, 1) := by decide +kernel
theorem d4 : decode yB 4 = .ok (.aload_n 0, 1) := by decide +kernel
theorem d5 : decode yB 5 = .ok (.iload_n 1, 1) := by decide +kernel
theorem d6 : decode yB 6 = .ok (.aload_n 3, 1) := by decide +kernel
theorem d7 : decode yB 7 = .ok (.iconst 0, 1) := by decide +kernel
theorem d8 : decode yB 8 = .ok (.iload_n 2, 1) := by decide +kernel
theorem d9 : decode yB 9 = .ok (.invokestatic 115, 3) := by decide +kernel
theorem d12 : decode yB 12 = .ok (.istore 4, 2) := by decide +kernel
theorem d14 : decode yB 14 = .ok (.iload 4, 2) := by decide +kernel
theorem d16 : decode yB 16 = .ok (.iload_n 2, 1) := by decide +kernel
theorem d17 : decode yB 17 = .ok (.if_icmp (.eq) 40, 3) := by decide +kernel
theorem d57 : decode yB 57 = .ok (.aload_n 3, 1) := by decide +kernel
theorem d58 : decode yB 58 = .ok (.areturn, 1) := by decide +kernel
def site : List Cond := [.arrayClass .byte, Cmp5.tab] ++ staticW U16 115 Cmp5.yN
def tab : Cond := tabOf yN yB 6 (some (.array .byte)) site
def P (b : Addr) (A : Cell) (o len : Nat) (args : Array Value) (s : State) : Prop := args = #[.ref b, .int (Int32.ofNat o), .int (Int32.ofNat len)] ∧ Ch b A s ∧ o + len ≤ A.slots.size ∧ len ≤ 536870912 ∧ ∀ i, i < len → ¬ 255 < cv A (o + i)
def E (b : Addr) (A : Cell) (o len : Nat) (r : Option Value) (s u : State) : Prop := NewArr .byte "[B" len (fun j => .int (lo8 (cv A (o + j)))) r s u ∧ u.heap.size = s.heap.size + 1
/-- no char of the range above 255: a new byte[] of their low bytes -/
theorem law (l : Launch) (b : Addr) (A : Cell) (o len : Nat) : Law l yN 3 3 1 18 yB 6 (some (.array .byte)) site (P b A o len) (E b A o len) [] 1 len := by
  refine Law.of_walk (plainFor_of_name (by decide +kernel)) (by decide +kernel) (by decide +kernel) (by decide) (fun _ _ h => by rw [h.1]; rfl) (fun _ U U' hal hh h => ⟨h.1, h.2.1.mv hal hh, h.2.2⟩) (fun r U U' V V' h1 hal h2 h => ⟨NewArr.mv r U U' V V' h1 hal h2 h.1, by rw [h1, h2]; exact h.2⟩) ?_
  intro p e s m args below meth c s₁ X0 hexec hbytes hml hret hlk hnm hown hh0 W hP
  obtain ⟨rfl, hA, l1, l2, hp⟩ := hP
  have a31 := hA.1.2.2.2
  have c1 : Steps p.tables e below (s₁.setTop (entryFrame m #[.ref b, .int (Int32.ofNat o), .int (Int32.ofNat len)] 6)) (s₁.setTop (mkF m 0 #[.val (.ref b), .val (.int (Int32.ofNat o)), .val (.int (Int32.ofNat len)), .unset, .unset, .unset] [])) := entry rfl
  have c2 : Steps p.tables e below (s₁.setTop (entryFrame m #[.ref b, .int (Int32.ofNat o), .int (Int32.ofNat len)] 6)) (s₁.setTop (mkF m 1 #[.val (.ref b), .val (.int (Int32.ofNat o)), .val (.int (Int32.ofNat len)), .unset, .unset, .unset] [.int (Int32.ofNat len)])) := c1.trans (by
    refine XS.iloadN X0.here hexec rfl (hb hbytes d0) rfl ?_
    exact Steps.refl _)
  obtain ⟨T3, B3, X3, ba3, bs3, bv3, bh3, bf3, st3⟩ := X0.anew hexec (atype := .byte) (wk W (.arrayClass .byte)) rfl (by show len * 1 ≤ _; omega) (by omega) (g := (mkF m 1 #[.val (.ref b), .val (.int (Int32.ofNat o)), .val (.int (Int32.ofNat len)), .unset, .unset, .unset] [.int (Int32.ofNat len)])) rfl (hb hbytes d1) (rest := []) rfl (Nat.le_refl _) (by show 0 + len ≤ len; omega)
  rw [hh0] at ba3 st3
  have kp3 : XT.Kept s T3 := (XT.Kept.of_eq hh0).push bh3
  have hA3 := hA.keep X3.warmed.alike (kp3 _ _ hA.1.1)
  have hne : b ≠ s.heap.size := hA.1.ne
  have c4 : Steps p.tables e below (s₁.setTop (entryFrame m #[.ref b, .int (Int32.ofNat o), .int (Int32.ofNat len)] 6)) (T3.setTop (mkF m 3 #[.val (.ref b), .val (.int (Int32.ofNat o)), .val (.int (Int32.ofNat len)), .unset, .unset, .unset] [.ref s.heap.size])) := c2.trans (st3 _ (Steps.refl _))
  have c5 : Steps p.tables e below (s₁.setTop (entryFrame m #[.ref b, .int (Int32.ofNat o), .int (Int32.ofNat len)] 6)) (T3.setTop (mkF m 9 #[.val (.ref b), .val (.int (Int32.ofNat o)), .val (.int (Int32.ofNat len)), .val (.ref s.heap.size), .unset, .unset] [.int (Int32.ofNat len), .int 0, .ref s.heap.size, .int (Int32.ofNat o), .ref b])) := c4.trans (by
    refine XS.astoreN X3.here hexec rfl (hb hbytes d3) rfl rfl rfl ?_
    refine XS.aloadN X3.here hexec rfl (hb hbytes d4) rfl rfl ?_
    refine XS.iloadN X3.here hexec rfl (hb hbytes d5) rfl ?_
    refine XS.aloadN X3.here hexec rfl (hb hbytes d6) rfl rfl ?_
    refine iconstV X3.here hexec rfl 0 (hb hbytes d7) (by decide) ?_
    refine XS.iloadN X3.here hexec rfl (hb hbytes d8) rfl ?_
    exact Steps.refl _)
  obtain ⟨v6, T6, X6, E6, g6⟩ := X3.callS hexec (Cmp5.law l b A s.heap.size B3 o 0 len) hown (wks W (staticW U16 115 Cmp5.yN)) (wk W Cmp5.tab) (W := 0) (Nat.le_of_ble_eq_true rfl) (Nat.le_of_ble_eq_true rfl) (Nat.le_refl _) (by show 0 + len + 0 ≤ len; omega) (g := (mkF m 9 #[.val (.ref b), .val (.int (Int32.ofNat o)), .val (.int (Int32.ofNat len)), .val (.ref s.heap.size), .unset, .unset] [.int (Int32.ofNat len), .int (Int32.ofNat 0), .ref s.heap.size, .int (Int32.ofNat o), .ref b])) rfl (by rw [hml]; rfl) c5 (argsL := [.ref b, .int (Int32.ofNat o), .ref s.heap.size, .int (Int32.ofNat 0), .int (Int32.ofNat len)]) (rest := []) rfl rfl (by show 2 * 0 + 0 ≤ _; decide) (hb hbytes d9) (⟨rfl, hA3, ba3, hne, l1, by rw [bs3]; simp, hp⟩)
  obtain ⟨rfl, B6, p6, f6⟩ := E6
  have c7 : Steps p.tables e below (s₁.setTop (entryFrame m #[.ref b, .int (Int32.ofNat o), .int (Int32.ofNat len)] 6)) (T6.setTop (mkF m 12 #[.val (.ref b), .val (.int (Int32.ofNat o)), .val (.int (Int32.ofNat len)), .val (.ref s.heap.size), .unset, .unset] [.int (Int32.ofNat len)])) := g6
  have c8 : Steps p.tables e below (s₁.setTop (entryFrame m #[.ref b, .int (Int32.ofNat o), .int (Int32.ofNat len)] 6)) (T6.setTop (mkF m 58 #[.val (.ref b), .val (.int (Int32.ofNat o)), .val (.int (Int32.ofNat len)), .val (.ref s.heap.size), .val (.int (Int32.ofNat len)), .unset] [.ref s.heap.size])) := c7.trans (by
    refine XS.istore X6.here hexec rfl (hb hbytes d12) rfl rfl ?_
    refine XS.iload X6.here hexec rfl (hb hbytes d14) rfl ?_
    refine XS.iloadN X6.here hexec rfl (hb hbytes d16) rfl ?_
    refine XS.icmpYes X6.here hexec rfl (pc0 := 17) rfl (hb hbytes d17) rfl (ii_eq_t rfl) (by decide) rfl ?_
    refine XS.aloadN X6.here hexec rfl (hb hbytes d57) rfl rfl ?_
    exact Steps.refl _)
  have X8 := X6.wide (L' := []) (cells' := 1) (slots' := len) (fun x hx hlt => by
    simp only [List.nil_append, copyLocs, List.mem_map, List.mem_range] at hx
    obtain ⟨i, -, rfl⟩ := hx
    exact absurd hlt (Nat.lt_irrefl _)) (Nat.le_refl _) (by omega)
  exact ⟨T6, some (.ref s.heap.size), _, _, _, X8, rfl, rfl, rfl, (fun h => by cases h), ⟨⟨rfl, B6, ba3.like (X3.warmed.alike.symm.trans X6.warmed.alike) p6.1 f6.1 f6.2.1 f6.2.2.1, f6.2.1.trans bv3, by rw [X6.warmed.alike.findClass, f6.1]; exact bf3, by rw [f6.2.2.1, bs3]; simp, fun j hj => by rw [f6.2.2.2 j, if_pos (by omega)]; rfl, kp3.put p6 (Nat.le_refl _)⟩, by rw [p6.2.2, bh3, hh0]; simp⟩, fun fs hl => c8.trans (X8.areturnOut hexec rfl hret rfl (hb hbytes d58) hl)⟩
end Cmp3
namespace CodL
def yN : MethodName := ⟨"java/lang/StringUTF16", "coderFromArrayLen", "([BI)B"⟩
abbrev yB : ByteArray := jdk_52_method_15_code
theorem d0 : decode yB 0 = .ok (.iload_n 1, 1) := by decide +kernel
theorem d1 : decode yB 1 = .ok (.aload_n 0, 1) := by decide +kernel
theorem d2 : decode yB 2 = .ok (.arraylength, 1) := by decide +kernel
theorem d3 : decode yB 3 = .ok (.isub, 1) := by decide +kernel
theorem d4 : decode yB 4 = .ok (.bipush 31, 2) := by decide +kernel
theorem d6 : decode yB 6 = .ok (.iushr, 1) := by decide +kernel
theorem d7 : decode yB 7 = .ok (.i2b, 1) := by decide +kernel
theorem d8 : decode yB 8 = .ok (.ireturn, 1) := by decide +kernel
def site : List Cond := []
def tab : Cond := tabOf yN yB 2 (some .byte) site
def P (d : Addr) (B : Cell) (args : Array Value) (s : State) : Prop := args = #[.ref d, .int (Int32.ofNat B.slots.size)] ∧ Arr .byte d B s
def E (r : Option Value) (s u : State) : Prop := XT.PureE (some (.int 0)) r s u
/-- an array as long as the number of chars: LATIN1 -/
theorem law (l : Launch) (d : Addr) (B : Cell) : Law l yN 2 2 0 0 yB 2 (some .byte) site (P d B) E [] 0 0 := by
  refine Law.of_walk (plainFor_of_name (by decide +kernel)) (by decide +kernel) (by decide +kernel) (by decide) (fun _ _ h => by rw [h.1]; rfl) (fun _ U U' hal hh h => ⟨h.1, h.2.mv hal hh⟩) (fun r U U' V V' h1 hal h2 h => XT.PureE.mv r U U' V V' h1 hal h2 h) ?_
  intro p e s m args below meth c s₁ X0 hexec hbytes hml hret hlk hnm hown hh0 W hP
  obtain ⟨rfl, hB⟩ := hP
  have hB0 := hB.mv X0.warmed.alike hh0
  have c1 : Steps p.tables e below (s₁.setTop (entryFrame m #[.ref d, .int (Int32.ofNat B.slots.size)] 2)) (s₁.setTop (mkF m 0 #[.val (.ref d), .val (.int (Int32.ofNat B.slots.size))] [])) := entry rfl
  have c2 : Steps p.tables e below (s₁.setTop (entryFrame m #[.ref d, .int (Int32.ofNat B.slots.size)] 2)) (s₁.setTop (mkF m 2 #[.val (.ref d), .val (.int (Int32.ofNat B.slots.size))] [.ref d, .int (Int32.ofNat B.slots.size)])) := c1.trans (by
    refine XS.iloadN X0.here hexec rfl (hb hbytes d0) rfl ?_
    refine XS.aloadN X0.here hexec rfl (hb hbytes d1) rfl rfl ?_
    exact Steps.refl _)
  have c3 : Steps p.tables e below (s₁.setTop (entryFrame m #[.ref d, .int (Int32.ofNat B.slots.size)] 2)) (s₁.setTop (mkF m 8 #[.val (.ref d), .val (.int (Int32.ofNat B.slots.size))] [.int (lo8 (ushr (Int32.ofNat B.slots.size - Int32.ofNat B.slots.size) 31))])) := c2.trans (by
    refine X0.alen hexec hB0 rfl rfl (hb hbytes d2) ?_
    refine XS.isub X0.here hexec rfl (hb hbytes d3) rfl ?_
    refine bipushV X0.here hexec rfl 31 (hb hbytes d4) (by decide) ?_
    refine iushr X0.here hexec rfl (hb hbytes d6) rfl ?_
    refine i2b X0.here hexec rfl (hb hbytes d7) rfl ?_
    exact Steps.refl _)
  have e0 : lo8 (ushr (Int32.ofNat B.slots.size - Int32.ofNat B.slots.size) 31) = 0 := by rw [Int32.sub_self]; decide
  rw [e0] at c3
  exact ⟨s₁, some (.int 0), _, _, _, X0, rfl, rfl, rfl, (fun h => by cases h), ⟨rfl, hh0⟩, fun fs hl => c3.trans (X0.ireturnOut hexec hret rfl (Or.inr (Or.inr (Or.inl rfl))) (hb hbytes d8) hl)⟩
end CodL
/-- the String at a is Latin-1 over a new byte[] (the heap's one new cell): the low bytes of the len chars of A from o on; every cell but a is kept -/
def Got (a : Addr) (D : Cell) (fV fC : Field) (A : Cell) (o len : Nat) (r : Option Value) (s u : State) : Prop := r = none ∧ ∃ D' V : Cell, Blank "java/lang/String" a D' u ∧ Same D D' [fV.slot, fC.slot] ∧ D'.slots[fV.slot]? = some (.ref s.heap.size) ∧ D'.slots[fC.slot]? = some (.int 0) ∧ Arr .byte s.heap.size V u ∧ V.vm = .none ∧ u.vm.findClass "[B" = some V.cls ∧ V.slots.size = len ∧ (∀ j, j < len → V.slots[j]? = some (.int (lo8 (cv A (o + j))))) ∧ (∀ (y : Addr) (c : Cell), y ≠ a → s.heap[y]? = some c → u.heap[y]? = some c) ∧ u.heap.size = s.heap.size + 1
theorem Got.mv {a : Addr} {D A : Cell} {fV fC : Field} {o len : Nat} : ∀ r (U U' V V' : State), U'.heap = U.heap → V.vm.Alike V'.vm → V'.heap = V.heap → Got a D fV fC A o len r U V → Got a D fV fC A o len r U' V' :=
  fun r U U' V V' h1 hal h2 ⟨e0, D', X, a1, a2, a3, a4, a5, a6, a7, a8, a9, a10, a11⟩ => ⟨e0, D', X, a1.mv hal h2, a2, by rw [h1]; exact a3, a4, by rw [h1]; exact a5.mv hal h2, a6, by rw [hal.findClass]; exact a7, a8, a9, by rw [h1, h2]; exact a10, by rw [h1, h2]; exact a11⟩
namespace New4
def yN : MethodName := ⟨"java/lang/String", "<init>", "([CIILjava/lang/Void;)V"⟩
abbrev yB : ByteArray := jdk_42_method_149_code
theorem d0 : decode yB 0 = .ok (.aload_n 0, 1) := by decide +kernel
theorem d1 : decode yB 1 = .ok (.invokespecial 1, 3) := by decide +kernel
theorem d4 : decode yB 4 = .ok (.iload_n 3, 1) := by decide +kernel
theorem d5 : decode yB 5 = .ok (.ifCond (.ne) 22, 3) := by decide +kernel
theorem d27 : decode yB 27 = .ok (.getstatic 38, 3) := by decide +kernel
theorem d30 : decode yB 30 = .ok (.ifCond (.eq) 28, 3) := by decide +kernel
theorem d33 : decode yB 33 = .ok (.aload_n 1, 1) := by decide +kernel
theorem d34 : decode yB 34 = .ok (.iload_n 2, 1) := by decide +kernel
theorem d35 : decode yB 35 = .ok (.iload_n 3, 1) := by decide +kernel
theorem d36 : decode yB 36 = .ok (.invokestatic 177, 3) := by decide +kernel
theorem d39 : decode yB 39 = .ok (.astore 5, 2) := by decide +kernel
theorem d41 : decode yB 41 = .ok (.aload_n 0, 1) := by decide +kernel
theorem d42 : decode yB 42 = .ok (.aload 5, 2) := by decide +kernel
theorem d44 : decode yB 44 = .ok (.iload_n 3, 1) := by decide +kernel
theorem d45 : decode yB 45 = .ok (.invokestatic 47, 3) := by decide +kernel
theorem d48 : decode yB 48 = .ok (.putfield 15, 3) := by decide +kernel
theorem d51 : decode yB 51 = .ok (.aload_n 0, 1) := by decide +kernel
theorem d52 : decode yB 52 = .ok (.aload 5, 2) := by decide +kernel
theorem d54 : decode yB 54 = .ok (.putfield 9, 3) := by decide +kernel
theorem d57 : decode yB 57 = .ok (.return_, 1) := by decide +kernel
def site : List Cond := [.fieldLink "java/lang/String" 38 "java/lang/String" "COMPACT_STRINGS" "Z", Cmp3.tab, CodL.tab, .laysFinal "java/lang/String" "java/lang/String" "value" "[B", .fieldLink "java/lang/String" 9 "java/lang/String" "value" "[B", .laysFinal "java/lang/String" "java/lang/String" "coder" "B", .fieldLink "java/lang/String" 15 "java/lang/String" "coder" "B"] ++ objW "java/lang/String" 1 ++ staticW "java/lang/String" 177 Cmp3.yN ++ staticW "java/lang/String" 47 CodL.yN
def tab : Cond := tabOf yN yB 6 none site
def P (a : Addr) (D : Cell) (fV fC : Field) (b : Addr) (A : Cell) (z : Int32) (o len : Nat) (args : Array Value) (s : State) : Prop := args = #[.ref a, .ref b, .int (Int32.ofNat o), .int (Int32.ofNat len), .null] ∧ Blank "java/lang/String" a D s ∧ Found "java/lang/String" "value" "[B" fV s ∧ Found "java/lang/String" "coder" "B" fC s ∧ Ch b A s ∧ StaticIs s "java/lang/String" "COMPACT_STRINGS" "Z" (.int z) ∧ ¬ z = 0 ∧ 0 < len ∧ o + len ≤ A.slots.size ∧ len ≤ 536870912 ∧ ∀ i, i < len → ¬ 255 < cv A (o + i)
def E (a : Addr) (D : Cell) (fV fC : Field) (A : Cell) (o len : Nat) (r : Option Value) (s u : State) : Prop := Got a D fV fC A o len r s u
/-- len > 0, no char of the range above 255: a Latin-1 String of their low bytes -/
theorem law (l : Launch) (a : Addr) (D : Cell) (fV fC : Field) (b : Addr) (A : Cell) (z : Int32) (o len : Nat) : Law l yN 5 4 2 35 yB 6 none site (P a D fV fC b A z o len) (E a D fV fC A o len) [⟨a, fC.slot⟩, ⟨a, fV.slot⟩] 1 len := by
  refine Law.of_walk (plainFor_of_name (by decide +kernel)) (by decide +kernel) (by decide +kernel) (by decide) (fun _ _ h => by rw [h.1]; rfl) (fun _ U U' hal hh h => ⟨h.1, h.2.1.mv hal hh, h.2.2.1.al hal, h.2.2.2.1.al hal, h.2.2.2.2.1.mv hal hh, h.2.2.2.2.2.1.there hal hh, h.2.2.2.2.2.2⟩) (fun r U U' V V' h1 hal h2 h => Got.mv r U U' V V' h1 hal h2 h) ?_
  intro p e s m args below meth c s₁ X0 hexec hbytes hml hret hlk hnm hown hh0 W hP
  obtain ⟨rfl, hB, f1, f2, hA, s1, hz, l0, l1, l2, hp⟩ := hP
  have a31 := hA.1.2.2.2
  have c1 : Steps p.tables e below (s₁.setTop (entryFrame m #[.ref a, .ref b, .int (Int32.ofNat o), .int (Int32.ofNat len), .null] 6)) (s₁.setTop (mkF m 0 #[.val (.ref a), .val (.ref b), .val (.int (Int32.ofNat o)), .val (.int (Int32.ofNat len)), .val .null, .unset] [])) := entry rfl
  have c2 : Steps p.tables e below (s₁.setTop (entryFrame m #[.ref a, .ref b, .int (Int32.ofNat o), .int (Int32.ofNat len), .null] 6)) (s₁.setTop (mkF m 1 #[.val (.ref a), .val (.ref b), .val (.int (Int32.ofNat o)), .val (.int (Int32.ofNat len)), .val .null, .unset] [.ref a])) := c1.trans (by
    refine XS.aloadN X0.here hexec rfl (hb hbytes d0) rfl rfl ?_
    exact Steps.refl _)
  obtain ⟨T3, X3, q3, st3⟩ := X0.oinit hexec hown (wks W (objW "java/lang/String" 1)) (g := (mkF m 1 #[.val (.ref a), .val (.ref b), .val (.int (Int32.ofNat o)), .val (.int (Int32.ofNat len)), .val .null, .unset] [.ref a])) rfl (by rw [hml]; rfl) (rest := []) rfl (hb hbytes d1) (W := 0) (by show 2 * 0 + 0 ≤ _; decide) (Nat.le_of_ble_eq_true rfl) (Nat.le_of_ble_eq_true rfl)
  have hh3 := q3.trans hh0
  have c4 : Steps p.tables e below (s₁.setTop (entryFrame m #[.ref a, .ref b, .int (Int32.ofNat o), .int (Int32.ofNat len), .null] 6)) (T3.setTop (mkF m 27 #[.val (.ref a), .val (.ref b), .val (.int (Int32.ofNat o)), .val (.int (Int32.ofNat len)), .val .null, .unset] [])) := (c2.trans (st3 _ (Steps.refl _))).trans (by
    refine XS.iloadN X3.here hexec rfl (hb hbytes d4) rfl ?_
    refine XS.ifYes X3.here hexec rfl (pc0 := 5) rfl (hb hbytes d5) rfl (i0_ne_t (nz32 (by omega) l0)) (by decide) rfl ?_
    exact Steps.refl _)
  obtain ⟨T5, X5, q5, st5⟩ := X3.sget hexec hown (wk W (.fieldLink "java/lang/String" 38 "java/lang/String" "COMPACT_STRINGS" "Z")) s1 (fun _ _ h => by rw [hh3]; exact h) (g := (mkF m 27 #[.val (.ref a), .val (.ref b), .val (.int (Int32.ofNat o)), .val (.int (Int32.ofNat len)), .val .null, .unset] [])) rfl (hb hbytes d27)
  have hh5 := q5.trans hh3
  have c6 : Steps p.tables e below (s₁.setTop (entryFrame m #[.ref a, .ref b, .int (Int32.ofNat o), .int (Int32.ofNat len), .null] 6)) (T5.setTop (mkF m 30 #[.val (.ref a), .val (.ref b), .val (.int (Int32.ofNat o)), .val (.int (Int32.ofNat len)), .val .null, .unset] [.int z])) := c4.trans (st5 _ (Steps.refl _))
  have c7 : Steps p.tables e below (s₁.setTop (entryFrame m #[.ref a, .ref b, .int (Int32.ofNat o), .int (Int32.ofNat len), .null] 6)) (T5.setTop (mkF m 36 #[.val (.ref a), .val (.ref b), .val (.int (Int32.ofNat o)), .val (.int (Int32.ofNat len)), .val .null, .unset] [.int (Int32.ofNat len), .int (Int32.ofNat o), .ref b])) := c6.trans (by
    refine XS.ifNo X5.here hexec rfl (hb hbytes d30) rfl (i0_eq_f hz) ?_
    refine XS.aloadN X5.here hexec rfl (hb hbytes d33) rfl rfl ?_
    refine XS.iloadN X5.here hexec rfl (hb hbytes d34) rfl ?_
    refine XS.iloadN X5.here hexec rfl (hb hbytes d35) rfl ?_
    exact Steps.refl _)
  obtain ⟨v8, T8, X8, E8, g8⟩ := X5.callS hexec (Cmp3.law l b A o len) hown (wks W (staticW "java/lang/String" 177 Cmp3.yN)) (wk W Cmp3.tab) (W := 0) (Nat.le_of_ble_eq_true rfl) (Nat.le_of_ble_eq_true rfl) (Nat.le_refl _) (by show 0 + len ≤ len; omega) (g := (mkF m 36 #[.val (.ref a), .val (.ref b), .val (.int (Int32.ofNat o)), .val (.int (Int32.ofNat len)), .val .null, .unset] [.int (Int32.ofNat len), .int (Int32.ofNat o), .ref b])) rfl (by rw [hml]; rfl) c7 (argsL := [.ref b, .int (Int32.ofNat o), .int (Int32.ofNat len)]) (rest := []) rfl rfl (by show 2 * 0 + 0 ≤ _; decide) (hb hbytes d36) (⟨rfl, hA.mv X5.warmed.alike hh5, l1, l2, hp⟩)
  obtain ⟨e8, z8⟩ := E8
  obtain ⟨rfl, N, n1, n2, n3, n4, n5, n6⟩ := NewArr.mv _ T5 s _ _ hh5.symm (Vm.Alike.refl _) rfl e8
  rw [hh5] at z8
  have hB1 := hB.keep X8.warmed.alike (n6 _ _ hB.1)
  have hne : s.heap.size ≠ a := (Nat.ne_of_lt (Array.getElem?_eq_some_iff.mp hB.1).1).symm
  have c9 : Steps p.tables e below (s₁.setTop (entryFrame m #[.ref a, .ref b, .int (Int32.ofNat o), .int (Int32.ofNat len), .null] 6)) (T8.setTop (mkF m 39 #[.val (.ref a), .val (.ref b), .val (.int (Int32.ofNat o)), .val (.int (Int32.ofNat len)), .val .null, .unset] [.ref s.heap.size])) := g8
  have c10 : Steps p.tables e below (s₁.setTop (entryFrame m #[.ref a, .ref b, .int (Int32.ofNat o), .int (Int32.ofNat len), .null] 6)) (T8.setTop (mkF m 45 #[.val (.ref a), .val (.ref b), .val (.int (Int32.ofNat o)), .val (.int (Int32.ofNat len)), .val .null, .val (.ref s.heap.size)] [.int (Int32.ofNat N.slots.size), .ref s.heap.size, .ref a])) := by
    have hc : Steps p.tables e below (s₁.setTop (entryFrame m #[.ref a, .ref b, .int (Int32.ofNat o), .int (Int32.ofNat len), .null] 6)) (T8.setTop (mkF m 45 #[.val (.ref a), .val (.ref b), .val (.int (Int32.ofNat o)), .val (.int (Int32.ofNat len)), .val .null, .val (.ref s.heap.size)] [.int (Int32.ofNat len), .ref s.heap.size, .ref a])) := c9.trans (by
      refine XS.astore X8.here hexec rfl (hb hbytes d39) rfl rfl rfl ?_
      refine XS.aloadN X8.here hexec rfl (hb hbytes d41) rfl rfl ?_
      refine XS.aload X8.here hexec rfl (hb hbytes d42) rfl rfl ?_
      refine XS.iloadN X8.here hexec rfl (hb hbytes d44) rfl ?_
      exact Steps.refl _)
    rw [n4]; exact hc
  obtain ⟨v11, T11, X11, E11, g11⟩ := X8.callS hexec (CodL.law l s.heap.size N) hown (wks W (staticW "java/lang/String" 47 CodL.yN)) (wk W CodL.tab) (W := 1) (Nat.le_of_ble_eq_true rfl) (Nat.le_of_ble_eq_true rfl) (Nat.le_refl _) (by show 0 + len + 0 ≤ len; omega) (g := (mkF m 45 #[.val (.ref a), .val (.ref b), .val (.int (Int32.ofNat o)), .val (.int (Int32.ofNat len)), .val .null, .val (.ref s.heap.size)] [.int (Int32.ofNat N.slots.size), .ref s.heap.size, .ref a])) rfl (by rw [hml]; rfl) c10 (argsL := [.ref s.heap.size, .int (Int32.ofNat N.slots.size)]) (rest := [.ref a]) rfl rfl (by show 2 * 0 + (1 + 0) ≤ _; decide) (hb hbytes d45) (⟨rfl, n1⟩)
  obtain ⟨rfl, q11⟩ := E11
  have hB11 := hB1.mv (X8.warmed.alike.symm.trans X11.warmed.alike) q11
  have c12 : Steps p.tables e below (s₁.setTop (entryFrame m #[.ref a, .ref b, .int (Int32.ofNat o), .int (Int32.ofNat len), .null] 6)) (T11.setTop (mkF m 48 #[.val (.ref a), .val (.ref b), .val (.int (Int32.ofNat o)), .val (.int (Int32.ofNat len)), .val .null, .val (.ref s.heap.size)] [.int 0, .ref a])) := g11
  obtain ⟨T13, X13, p13, bl13, sl13, st13⟩ := X11.finit hexec hown (wk W (.fieldLink "java/lang/String" 15 "java/lang/String" "coder" "B")) (Or.inr ⟨_, (wk W (.laysFinal "java/lang/String" "java/lang/String" "coder" "B"))⟩) (Or.inl ⟨rfl, hnm⟩) f2 (Or.inl rfl) hB11 (t := .byte) (by decide +kernel) rfl (g := (mkF m 48 #[.val (.ref a), .val (.ref b), .val (.int (Int32.ofNat o)), .val (.int (Int32.ofNat len)), .val .null, .val (.ref s.heap.size)] [.int 0, .ref a])) rfl (rest := []) rfl (hb hbytes d48)
  have c14 : Steps p.tables e below (s₁.setTop (entryFrame m #[.ref a, .ref b, .int (Int32.ofNat o), .int (Int32.ofNat len), .null] 6)) (T13.setTop (mkF m 54 #[.val (.ref a), .val (.ref b), .val (.int (Int32.ofNat o)), .val (.int (Int32.ofNat len)), .val .null, .val (.ref s.heap.size)] [.ref s.heap.size, .ref a])) := (c12.trans (st13 _ (Steps.refl _))).trans (by
    refine XS.aloadN X13.here hexec rfl (hb hbytes d51) rfl rfl ?_
    refine XS.aload X13.here hexec rfl (hb hbytes d52) rfl rfl ?_
    exact Steps.refl _)
  obtain ⟨T15, X15, p15, bl15, sl15, st15⟩ := X13.finit hexec hown (wk W (.fieldLink "java/lang/String" 9 "java/lang/String" "value" "[B")) (Or.inr ⟨_, (wk W (.laysFinal "java/lang/String" "java/lang/String" "value" "[B"))⟩) (Or.inl ⟨rfl, hnm⟩) f1 (Or.inl rfl) bl13 (t := (.array .byte)) (by decide +kernel) rfl (g := (mkF m 54 #[.val (.ref a), .val (.ref b), .val (.int (Int32.ofNat o)), .val (.int (Int32.ofNat len)), .val .null, .val (.ref s.heap.size)] [.ref s.heap.size, .ref a])) rfl (rest := []) rfl (hb hbytes d54)
  have c16 : Steps p.tables e below (s₁.setTop (entryFrame m #[.ref a, .ref b, .int (Int32.ofNat o), .int (Int32.ofNat len), .null] 6)) (T15.setTop (mkF m 57 #[.val (.ref a), .val (.ref b), .val (.int (Int32.ofNat o)), .val (.int (Int32.ofNat len)), .val .null, .val (.ref s.heap.size)] [])) := c14.trans (st15 _ (Steps.refl _))
  have ap := apart (Or.inr ⟨_, (wk W (.laysFinal "java/lang/String" "java/lang/String" "value" "[B"))⟩) (Or.inr ⟨_, (wk W (.laysFinal "java/lang/String" "java/lang/String" "coder" "B"))⟩) f1 f2 (t₁ := .array .byte) (t₂ := .byte) (by decide +kernel) (by decide +kernel) (by decide)
  have al := X8.warmed.alike.symm.trans X15.warmed.alike
  have n7 : T11.heap[s.heap.size]? = some N := by rw [q11]; exact n1.1
  exact ⟨T15, none, _, _, _, X15, by simp, rfl, by omega, (fun _ => rfl), ⟨rfl, _, N, bl15, ((Same.refl D _).set _ (by simp)).set _ (by simp), sl15, (Cell.slots_setSlot_ne _ ap).trans sl13, n1.keep al (p15.other hne (p13.other hne n7)), n2, by rw [al.findClass]; exact n3, n4, n5, fun y c h1 h2 => p15.other h1 (p13.other h1 (by rw [q11]; exact n6 y c h2)), by rw [p15.2.2, p13.2.2, q11]; exact z8⟩, fun fs hl => c16.trans (X15.returnOut hexec hret (hb hbytes d57) hl)⟩
end New4
namespace New1
def yN : MethodName := ⟨"java/lang/String", "<init>", "([C)V"⟩
abbrev yB : ByteArray := jdk_42_method_3_code
theorem d0 : decode yB 0 = .ok (.aload_n 0, 1) := by decide +kernel
theorem d1 : decode yB 1 = .ok (.aload_n 1, 1) := by decide +kernel
theorem d2 : decode yB 2 = .ok (.iconst 0, 1) := by decide +kernel
theorem d3 : decode yB 3 = .ok (.aload_n 1, 1) := by decide +kernel
theorem d4 : decode yB 4 = .ok (.arraylength, 1) := by decide +kernel
theorem d5 : decode yB 5 = .ok (.aconst_null, 1) := by decide +kernel
theorem d6 : decode yB 6 = .ok (.invokespecial 27, 3) := by decide +kernel
theorem d9 : decode yB 9 = .ok (.return_, 1) := by decide +kernel
def site : List Cond := [New4.tab] ++ initW "java/lang/String" 27 New4.yN
def tab : Cond := tabOf yN yB 2 none site
def P (a : Addr) (D : Cell) (fV fC : Field) (b : Addr) (A : Cell) (z : Int32) (args : Array Value) (s : State) : Prop := args = #[.ref a, .ref b] ∧ Blank "java/lang/String" a D s ∧ Found "java/lang/String" "value" "[B" fV s ∧ Found "java/lang/String" "coder" "B" fC s ∧ Ch b A s ∧ StaticIs s "java/lang/String" "COMPACT_STRINGS" "Z" (.int z) ∧ ¬ z = 0 ∧ 0 < A.slots.size ∧ A.slots.size ≤ 536870912 ∧ ∀ i, i < A.slots.size → ¬ 255 < cv A i
def E (a : Addr) (D : Cell) (fV fC : Field) (A : Cell) (r : Option Value) (s u : State) : Prop := Got a D fV fC A 0 A.slots.size r s u
/-- new String(chars), not empty, no char above 255: a Latin-1 String of their low bytes -/
theorem law (l : Launch) (a : Addr) (D : Cell) (fV fC : Field) (b : Addr) (A : Cell) (z : Int32) : Law l yN 2 1 3 52 yB 2 none site (P a D fV fC b A z) (E a D fV fC A) [⟨a, fC.slot⟩, ⟨a, fV.slot⟩] 1 A.slots.size := by
  refine Law.of_walk (plainFor_of_name (by decide +kernel)) (by decide +kernel) (by decide +kernel) (by decide) (fun _ _ h => by rw [h.1]; rfl) (fun _ U U' hal hh h => ⟨h.1, h.2.1.mv hal hh, h.2.2.1.al hal, h.2.2.2.1.al hal, h.2.2.2.2.1.mv hal hh, h.2.2.2.2.2.1.there hal hh, h.2.2.2.2.2.2⟩) (fun r U U' V V' h1 hal h2 h => Got.mv r U U' V V' h1 hal h2 h) ?_
  intro p e s m args below meth c s₁ X0 hexec hbytes hml hret hlk hnm hown hh0 W hP
  obtain ⟨rfl, hB, f1, f2, hA, s1, hz, l0, l2, hp⟩ := hP
  have c1 : Steps p.tables e below (s₁.setTop (entryFrame m #[.ref a, .ref b] 2)) (s₁.setTop (mkF m 0 #[.val (.ref a), .val (.ref b)] [])) := entry rfl
  have c2 : Steps p.tables e below (s₁.setTop (entryFrame m #[.ref a, .ref b] 2)) (s₁.setTop (mkF m 6 #[.val (.ref a), .val (.ref b)] [.null, .int (Int32.ofNat A.slots.size), .int 0, .ref b, .ref a])) := c1.trans (by
    refine XS.aloadN X0.here hexec rfl (hb hbytes d0) rfl rfl ?_
    refine XS.aloadN X0.here hexec rfl (hb hbytes d1) rfl rfl ?_
    refine iconstV X0.here hexec rfl 0 (hb hbytes d2) (by decide) ?_
    refine XS.aloadN X0.here hexec rfl (hb hbytes d3) rfl rfl ?_
    refine X0.alen hexec (hA.1.mv X0.warmed.alike hh0) rfl rfl (hb hbytes d4) ?_
    refine XS.aconstNull X0.here hexec rfl (hb hbytes d5) ?_
    exact Steps.refl _)
  obtain ⟨v3, T3, X3, E3, g3⟩ := X0.callN hexec (New4.law l a D fV fC b A z 0 A.slots.size) rfl hown (wks W (initW "java/lang/String" 27 New4.yN)) (W New4.tab (by simp only [site, List.mem_cons, List.mem_append, true_or, or_true])) (W := 0) (Nat.le_of_ble_eq_true rfl) (Nat.le_of_ble_eq_true rfl) (Nat.le_refl _) (by show 0 + A.slots.size ≤ A.slots.size; omega) (g := (mkF m 6 #[.val (.ref a), .val (.ref b)] [.null, .int (Int32.ofNat A.slots.size), .int (Int32.ofNat 0), .ref b, .ref a])) rfl (by rw [hml]; rfl) c2 (argsL := [.ref b, .int (Int32.ofNat 0), .int (Int32.ofNat A.slots.size), .null]) (rest := []) rfl rfl (by show 2 * 0 + 0 ≤ _; decide) (hb hbytes d6) (⟨rfl, hB.mv X0.warmed.alike hh0, f1.al X0.warmed.alike, f2.al X0.warmed.alike, hA.mv X0.warmed.alike hh0, s1.there X0.warmed.alike hh0, hz, l0, by omega, l2, fun i hi => by rw [Nat.zero_add]; exact hp i hi⟩)
  have e0 := Got.mv _ s₁ s _ _ hh0.symm (Vm.Alike.refl _) rfl E3
  obtain rfl := e0.1
  have c4 : Steps p.tables e below (s₁.setTop (entryFrame m #[.ref a, .ref b] 2)) (T3.setTop (mkF m 9 #[.val (.ref a), .val (.ref b)] [])) := g3
  exact ⟨T3, none, _, _, _, X3, by simp, rfl, by omega, (fun _ => rfl), e0, fun fs hl => c4.trans (X3.returnOut hexec hret (hb hbytes d9) hl)⟩
theorem pays {l : Launch} {R : Room} {p : Program} {e : Env} {below : List Frame} {s : State} {sargs : Array Value} {len W : Nat} (a : Addr) (D : Cell) (fV fC : Field) (b : Addr) (A : Cell) (z : Int32) (htab : tab.before sargs s = true) (hfr : 4 ≤ R.frames) (hlo : W + 65 ≤ R.locals) :
    Back l R p e below s sargs yN len W (fun A₁ a₁ => A₁.cells + 1 ≤ R.cells ∧ A₁.slots + A.slots.size ≤ R.slots ∧ P a D fV fC b A z a₁ A₁.U) (fun A₁ _ v₁ B₁ => E a D fV fC A v₁ A₁.U B₁.U ∧ B₁.locs = A₁.locs ++ [⟨a, fC.slot⟩, ⟨a, fV.slot⟩] ∧ B₁.cells = A₁.cells + 1 ∧ B₁.slots = A₁.slots + A.slots.size) :=
  (law l a D fV fC b A z).pays htab hfr (by omega)
end New1
end StrChars
namespace StrChars.Road
open Jvm Sem ClassFile Op Lib Jvm.Stand Jvm.Free Jvm.Free.XT
open Jvm.Lib.Cold (StaticIs)
abbrev ST : String := "java/lang/String"
/-- every table word that New1's law asks, flat -/
abbrev words : List Jvm.Cond := [.code New1.yN New1.yB 2 none, .initialized ST, .methodLink ST 27 New4.yN, .instanceMethod New4.yN,
  .code New4.yN New4.yB 6 none, .fieldLink ST 38 ST "COMPACT_STRINGS" "Z", .laysFinal ST ST "value" "[B", .fieldLink ST 9 ST "value" "[B", .laysFinal ST ST "coder" "B", .fieldLink ST 15 ST "coder" "B",
  .methodLink ST 1 Lib.objectInit, .instanceMethod Lib.objectInit, .code Lib.objectInit ⟨#[0xb1]⟩ 1 none, .methodLink ST 177 Cmp3.yN, .static Cmp3.yN, .methodLink ST 47 CodL.yN, .static CodL.yN,
  .code Cmp3.yN Cmp3.yB 6 (some (.array .byte)), .initialized U16, .arrayClass .byte, .methodLink U16 115 Cmp5.yN, .static Cmp5.yN, .code Cmp5.yN Cmp5.yB 7 (some .int), .code CodL.yN CodL.yB 2 (some .byte)]
theorem tab_of {a : Array Value} {s : State} (h : ∀ w ∈ words, w.before a s = true) : New1.tab.before a s = true := by
  have h5 : Cmp5.tab.before a s = true := unparts (wk h (.code Cmp5.yN Cmp5.yB 7 (some .int))) (wks h (.initialized Cmp5.yN.cls :: Cmp5.site))
  have hc : CodL.tab.before a s = true := unparts (wk h (.code CodL.yN CodL.yB 2 (some .byte))) (wks h (.initialized CodL.yN.cls :: CodL.site))
  have q5 : ∀ w ∈ Cmp5.tab :: words, w.before a s = true := fun w hw => (List.mem_cons.mp hw).elim (fun e => e ▸ h5) (h w)
  have h3 : Cmp3.tab.before a s = true := unparts (wk q5 (.code Cmp3.yN Cmp3.yB 6 (some (.array .byte)))) (wks q5 (.initialized Cmp3.yN.cls :: Cmp3.site))
  have q3 : ∀ w ∈ Cmp3.tab :: CodL.tab :: words, w.before a s = true := fun w hw => (List.mem_cons.mp hw).elim (fun e => e ▸ h3) fun hw => (List.mem_cons.mp hw).elim (fun e => e ▸ hc) (h w)
  have h4 : New4.tab.before a s = true := unparts (wk q3 (.code New4.yN New4.yB 6 none)) (wks q3 (.initialized New4.yN.cls :: New4.site))
  have q4 : ∀ w ∈ New4.tab :: words, w.before a s = true := fun w hw => (List.mem_cons.mp hw).elim (fun e => e ▸ h4) (h w)
  exact unparts (wk q4 (.code New1.yN New1.yB 2 none)) (wks q4 (.initialized New1.yN.cls :: New1.site))
/-- the words ride from the start Z to the walk's own state -/
theorem moved {Z s : State} {a0 args : Array Value} (hZ : Z.Warmed39 s.vm) (hw : ∀ d ∈ words, d.before a0 Z = true) : ∀ d ∈ words, d.before args s = true := fun d hd => by
  have q := hw d hd
  have t : ∀ d ∈ words, d = .arrayClass .byte ∨ (d.onTables && d.keepsFace) = true := by decide +kernel
  rcases t d hd with rfl | t
  · exact RoadKit.mvA hZ q
  · exact RoadKit.mv hZ q t
/-- WHAT COMES BACK, over the tables of the start Z: h the heap at the call, h' behind it -/
def Q (Z : State) (x : Addr) (A : Cell) (h : Heap) (v : Option Value) (h' : Heap) (L : List Loc) : Prop := v = none ∧ (∀ y ∈ L, y.base = x) ∧ RoadKit.Keep h h' [x] ∧ h'.size = h.size + 1 ∧ RoadKit.Exa Z h' x ST ∧ RoadKit.Fld Z h' x ST "value" "[B" (.ref h.size) ∧ RoadKit.Fld Z h' x ST "coder" "B" (.int 0) ∧
  (∃ V : Cell, RoadKit.Arr Z h' h.size V .byte ∧ V.vm = .none ∧ Z.vm.findClass "[B" = some V.cls ∧ V.slots.size = A.slots.size ∧ ∀ j, j < A.slots.size → V.slots[j]? = some (.int (lo8 (cv A j)))) ∧
  ∀ (O n d : String) (w : Value), RoadKit.Fld Z h x O n d w → RoadKit.slotOf Z O n d ≠ RoadKit.slotOf Z ST "value" "[B" → RoadKit.slotOf Z O n d ≠ RoadKit.slotOf Z ST "coder" "B" → RoadKit.Fld Z h' x O n d w
/-- **new String(chars) AT A CALL, IN THE ROAD'S FORM**: for specialBack behind newO: x the fresh String, b the char[] with the cell A -/
theorem back {p : Program} {l : Launch} {e : Env} {R : Room} {s : State} {args : Array Value} {below : List Frame} {len W : Nat} {Z : State} {a0 : Array Value} {h : Heap} (hZ : Z.Warmed39 s.vm) (hw : ∀ d ∈ words, d.before a0 Z = true) {kI : Nat} (wi : (Jvm.Cond.instantiable ST kI).before a0 Z = true)
    {x b : Addr} {A : Cell} {z : Int32} {v0 c0 : Value} (E : RoadKit.Exa Z h x ST) (V : RoadKit.Fld Z h x ST "value" "[B" v0) (C : RoadKit.Fld Z h x ST "coder" "B" c0) (K : RoadKit.Arr Z h b A .char) (hty : Typed .char A) (S : RoadKit.Sta Z h ST "COMPACT_STRINGS" "Z" (.int z)) (hz : ¬ z = 0)
    (l0 : 0 < A.slots.size) (l2 : A.slots.size ≤ 536870912) (hp : ∀ i, i < A.slots.size → ¬ 255 < cv A i) (hfr : 4 ≤ R.frames) (hlo : W + 65 ≤ R.locals) :
    Back l R p e below s args New1.yN len W (fun P a => a = #[.ref x, .ref b] ∧ P.U.heap = h ∧ P.cells + 1 ≤ R.cells ∧ P.slots + A.slots.size ≤ R.slots)
      (fun P _ v B => ∃ L, Q Z x A h v B.U.heap L ∧ B.locs = P.locs ++ L ∧ B.cells = P.cells + 1 ∧ B.slots = P.slots + A.slots.size) := by
  intro m meth c P g ig mk a X hg hsize hdg hW hn hp'
  obtain ⟨rfl, rfl, r1, r2⟩ := hp'
  have al : Z.vm.Alike P.U.vm := hZ.alike.trans X.warmed.alike
  obtain ⟨D, cfV, kV, iV, fV, hD, gV, stV, knV, obV, asV, slV⟩ := id V
  obtain ⟨D', cfC, kC, iC, fC, hD', gC, stC, -, -, asC, slC⟩ := id C
  cases hD.symm.trans hD'
  obtain ⟨D2, kD, e1, e2, e3, e4, e5⟩ := id E
  cases hD.symm.trans e1
  obtain ⟨c2, k2, i1, i2, i3, -⟩ := Cond.instantiable_spec wi
  cases e2.symm.trans i1
  cases e3.symm.trans i2
  obtain ⟨kU, u1, u2⟩ := al.2.2 _ _ e3
  have hB : Blank ST x D P.U := ⟨hD, ⟨knV, fun q hq => by rw [hq] at obV; cases obV⟩, by rw [al.findClass]; exact e2, kU, u1, by rw [u2]; exact i3, by rw [u2]; exact e5 i3⟩
  have F1 : Found ST "value" "[B" fV P.U := ⟨SBG.found_only al ⟨cfV, kV, iV, gV⟩, stV⟩
  have F2 : Found ST "coder" "B" fC P.U := ⟨SBG.found_only al ⟨cfC, kC, iC, gC⟩, stC⟩
  have hA : Ch b A P.U := ⟨⟨K.1, State.isArrayOf_alike al K.2.1, K.2.2, by omega⟩, hty⟩
  have hS : StaticIs P.U ST "COMPACT_STRINGS" "Z" (.int z) := by
    obtain ⟨cfS, iS, kS, fS, st, cS, t1, t2, t3, t4, t5, t6, t7⟩ := S
    exact StaticIs.there (s := { Z with heap := P.U.heap }) ⟨cfS, iS, kS, fS, st, cS, t1, t2, t3, t4, t5, (fun q => by rw [q] at t6; cases t6), t7⟩ al rfl
  obtain ⟨v, B, X', ⟨⟨hv, E', V', q1, q2, q3, q4, q5, q6, q7, q8, q9, q10, q11⟩, hl, hc, hs⟩, st⟩ := New1.pays x D fV fC b A z (tab_of (moved hZ hw)) hfr hlo m meth c P g ig mk _ X hg hsize hdg hW hn ⟨r1, r2, rfl, hB, F1, F2, hA, hS, hz, l0, l2, hp⟩
  have al' : Z.vm.Alike B.U.vm := hZ.alike.trans X'.warmed.alike
  have hsz : E'.slots.size = D.slots.size := by
    obtain ⟨-, -, -, kB, w1, w2, w3⟩ := q1
    obtain ⟨kB', y1, y2⟩ := al'.2.2 _ _ e3
    rw [q2.2.1] at w1
    cases w1.symm.trans y1
    rw [w3, e5 i3, y2]
  refine ⟨v, B, X', ⟨_, ⟨hv, ?_, ⟨by omega, fun y cy hy hn' => q10 y cy (by simpa using hn') hy, fun y cy hy => ?_⟩, q11, ⟨E', _, q1.1, by rw [q2.2.1]; exact e2, by rw [q2.2.1]; exact e3, by rw [q2.1]; exact obV, fun _ => by rw [hsz]; exact e5 i3⟩,
    ⟨E', cfV, kV, iV, fV, q1.1, gV, stV, by rw [q2.1]; exact knV, by rw [q2.1]; exact obV, by rw [q2.2.1]; exact asV, q3⟩, ⟨E', cfC, kC, iC, fC, q1.1, gC, stC, by rw [q2.1]; exact knV, by rw [q2.1]; exact obV, by rw [q2.2.1]; exact asC, q4⟩,
    ⟨V', ⟨q5.1, State.isArrayOf_alike al'.symm q5.2.1, q5.2.2.1⟩, q6, by rw [← al'.findClass]; exact q7, q8, fun j hj => by have := q9 j hj; rwa [Nat.zero_add] at this⟩, fun O n d w F n1 n2 => ?_⟩, hl, hc, hs⟩, st⟩
  · intro y hy
    simp only [List.mem_cons, List.not_mem_nil, or_false] at hy
    rcases hy with rfl | rfl <;> rfl
  · by_cases q : y = x
    · subst q
      cases hD.symm.trans hy
      exact ⟨E', q1.1, q2.2.1, q2.1, hsz⟩
    · exact ⟨cy, q10 y cy q hy, rfl, rfl, rfl⟩
  · obtain ⟨D3, cf, k, i, f, g1, g2, g3, g4, g5, g6, g7⟩ := F
    cases hD.symm.trans g1
    simp only [RoadKit.slotOf, g2, gV, gC, Option.map_some, Option.getD_some] at n1 n2
    exact ⟨E', cf, k, i, f, q1.1, g2, g3, by rw [q2.1]; exact g4, by rw [q2.1]; exact g5, by rw [q2.2.1]; exact g6, by rw [q2.2.2 f.slot (by simp [n1, n2])]; exact g7⟩
end StrChars.Road
namespace StrChars.Road
open Jvm Sem ClassFile Op Lib Jvm.Stand Jvm.Free Jvm.Free.XT
/-- WHAT COMES BACK, the byte[] as a list of values -/
def QA (Z : State) (x : Addr) (zn : Int32) (cs : List Int32) (h : Heap) (v : Option Value) (h' : Heap) (L : List Loc) : Prop := v = none ∧ (∀ y ∈ L, y.base = x) ∧ RoadKit.Keep h h' [x] ∧ h'.size = h.size + 1 ∧ RoadKit.Exa Z h' x ST ∧ RoadKit.Fld Z h' x ST "value" "[B" (.ref h.size) ∧ RoadKit.Fld Z h' x ST "coder" "B" (.int 0) ∧
  (∃ kb, Z.vm.findClass "[B" = some kb ∧ RoadKit.Arv Z h' h.size kb .byte zn (cs.map fun c => .int (lo8 c)) (.int 0)) ∧
  ∀ (O n d : String) (w : Value), RoadKit.Fld Z h x O n d w → RoadKit.slotOf Z O n d ≠ RoadKit.slotOf Z ST "value" "[B" → RoadKit.slotOf Z O n d ≠ RoadKit.slotOf Z ST "coder" "B" → RoadKit.Fld Z h' x O n d w
/-- **new String(chars) AT A CALL, THE ARRAYS AS LISTS**: the char[] at b holds cs, not empty, no char above 255 -/
theorem backArv {p : Program} {l : Launch} {e : Env} {R : Room} {s : State} {args : Array Value} {below : List Frame} {len W : Nat} {Z : State} {a0 : Array Value} {h : Heap} (hZ : Z.Warmed39 s.vm) (hw : ∀ d ∈ words, d.before a0 Z = true) {kI : Nat} (wi : (Jvm.Cond.instantiable ST kI).before a0 Z = true)
    {x b : Addr} {k : ClassId} {zn z : Int32} {cs : List Int32} {dv v0 c0 : Value} (E : RoadKit.Exa Z h x ST) (V : RoadKit.Fld Z h x ST "value" "[B" v0) (C : RoadKit.Fld Z h x ST "coder" "B" c0) (K : RoadKit.Arv Z h b k .char zn (cs.map Value.int) dv) (S : RoadKit.Sta Z h ST "COMPACT_STRINGS" "Z" (.int z)) (hz : ¬ z = 0)
    (hlen : zn.toNatClampNeg = cs.length) (h0 : 0 < cs.length) (hbig : cs.length ≤ 536870912) (hall : ∀ c ∈ cs, ¬ 255 < c) (hfr : 4 ≤ R.frames) (hlo : W + 65 ≤ R.locals) :
    Back l R p e below s args New1.yN len W (fun P a => a = #[.ref x, .ref b] ∧ P.U.heap = h ∧ P.cells + 1 ≤ R.cells ∧ P.slots + cs.length ≤ R.slots)
      (fun P _ v B => ∃ L, QA Z x zn cs h v B.U.heap L ∧ B.locs = P.locs ++ L ∧ B.cells = P.cells + 1 ∧ B.slots = P.slots + cs.length) := by
  obtain ⟨A, K1, K2, K3, K4, K5, K6⟩ := K
  have e : A.slots.size = cs.length := K3.trans hlen
  have hat : ∀ (i : Nat) (hi : i < cs.length), A.slots[i]? = some (.int cs[i]) := fun i hi => by rw [K5 i (by omega)]; simp [List.getD_eq_getElem?_getD, hi]
  have hcv : ∀ (i : Nat) (hi : i < cs.length), cv A i = cs[i] := fun i hi => by unfold cv; rw [hat i hi]
  have hty : Typed .char A := fun i v hv => by
    have hi : i < A.slots.size := (Array.getElem?_eq_some_iff.mp hv).1
    have q := K5 i hi
    rw [hv] at q
    rw [Option.some.inj q]
    exact K6 i hi
  refine Back.mono (back hZ hw wi E V C K1 hty S hz (by omega) (by omega) (fun i hi => by rw [hcv i (by omega)]; exact hall _ (List.getElem_mem _)) hfr hlo) (fun P a hp => ⟨hp.1, hp.2.1, hp.2.2.1, by rw [e]; exact hp.2.2.2⟩) (fun P a v B hp hq => ?_)
  obtain ⟨L, ⟨q1, q2, q3, q4, q5, q6, q7, ⟨V', v1, v2, v3, v4, v5⟩, q9⟩, hl, hc, hs⟩ := hq
  refine ⟨L, ⟨q1, q2, q3, q4, q5, q6, q7, ⟨V'.cls, v3, V', v1, rfl, by rw [v4, e, hlen], K4, fun i hi => ?_, fun i hi => ?_⟩, q9⟩, hl, hc, by rw [hs, e]⟩
  · have hi' : i < cs.length := by omega
    rw [v5 i (by omega), hcv i hi']; simp [List.getD_eq_getElem?_getD, hi']
  · have hi' : i < cs.length := by omega
    simp only [List.getD_eq_getElem?_getD, List.getElem?_map, List.getElem?_eq_getElem hi', Option.map_some, Option.getD_some]
    exact fits_lo8 _
end StrChars.Road
namespace StrChars.Road
open Jvm Sem ClassFile Op Lib Jvm.Stand Jvm.Free Jvm.Free.XT
/-- WHAT COMES BACK, in the writer's own shape -/
def QV (Z : State) (x : Addr) (N : Int32) (bs : List Int32) (h : Heap) (n0 : Nat) (v : Option Value) (h' : Heap) (L : List Loc) : Prop := v = none ∧ RoadKit.Fr n0 L ∧ RoadKit.Keep h h' [x] ∧ RoadKit.Exa Z h' x ST ∧ RoadKit.Fld Z h' x ST "coder" "B" (.int 0) ∧
  ∃ (t : Addr) (kb : ClassId), n0 ≤ t ∧ h.size ≤ t ∧ ¬ t = x ∧ RoadKit.Fld Z h' x ST "value" "[B" (.ref t) ∧ RoadKit.Arv Z h' t kb .byte N (bs.map Value.int) (.int 0)
/-- **new String(chars) AT A CALL, FOR THE WRITER**: a char[] of n known ints, each 0 to 255 -/
theorem backV {p : Program} {l : Launch} {e : Env} {R : Room} {s : State} {args : Array Value} {below : List Frame} {len W : Nat} {Z : State} {a0 : Array Value} {h : Heap} (hZ : Z.Warmed39 s.vm) (hw : ∀ d ∈ words, d.before a0 Z = true) {kI : Nat} (wi : (Jvm.Cond.instantiable ST kI).before a0 Z = true)
    {x b : Addr} {kC : ClassId} {cs bs : List Int32} {d v0 c0 : Value} {z N : Int32} {n n0 : Nat} (hx0 : n0 ≤ x) (hh0 : n0 ≤ h.size) (E : RoadKit.Exa Z h x ST) (V : RoadKit.Fld Z h x ST "value" "[B" v0) (C : RoadKit.Fld Z h x ST "coder" "B" c0) (K : RoadKit.Arv Z h b kC .char N (cs.map Value.int) d) (S : RoadKit.Sta Z h ST "COMPACT_STRINGS" "Z" (.int z)) (hz : ¬ z = 0)
    (hn : cs.length = n) (hN : N = Int32.ofNat n) (l0 : 0 < n) (l2 : n ≤ 4000) (hp : ∀ c ∈ cs, ¬ c < 0 ∧ ¬ (255 : Int32) < c) (hb : bs = cs.map (fun c => c.toInt8.toInt32)) (hfr : 4 ≤ R.frames) (hlo : W + 65 ≤ R.locals) :
    Back l R p e below s args (⟨"java/lang/String", "<init>", "([C)V"⟩ : MethodName) len W (fun P a => a = #[.ref x, .ref b] ∧ P.U.heap = h ∧ P.cells + 1 ≤ R.cells ∧ P.slots + n ≤ R.slots)
      (fun P _ v B => ∃ L, QV Z x N bs h n0 v B.U.heap L ∧ B.locs = P.locs ++ L ∧ B.cells = P.cells + 1 ∧ B.slots = P.slots + n) := by
  subst hn hN hb
  refine Back.mono (backArv hZ hw wi E V C K S hz (n32 (by omega)) l0 (by omega) (fun c hc => (hp c hc).2) hfr hlo) (fun P a hp => hp) (fun P a v B hp hq => ?_)
  obtain ⟨L, ⟨q1, q2, q3, q4, q5, q6, q7, ⟨kb, v1, v2⟩, q9⟩, hl, hc, hs⟩ := hq
  exact ⟨L, ⟨q1, fun y hy => by rw [q2 y hy]; exact hx0, q3, q5, q7, h.size, kb, hh0, Nat.le_refl _, Nat.ne_of_gt E.lt, q6, by rw [List.map_map]; exact v2⟩, hl, hc, hs⟩
end StrChars.Road
namespace StrChars
open Jvm Sem ClassFile Op Lib Jvm.Stand Jvm.Free.XT Jvm.Free.ALB Jvm.Free.JM Jvm.Free
open Jvm.Lib.Cold (StaticIs)
def hi8 (x : Int32) : Int32 := lo8 (x >>> ((8 : Int32) &&& 31))
end StrChars
namespace StrChars
open Jvm Sem ClassFile Op Lib Jvm.Stand Jvm.Free.XT Jvm.Free.ALB Jvm.Free.JM Jvm.Free
open Jvm.Lib.Cold (StaticIs)
/-- the array's cell V codes the n chars f 0 .. f (n - 1) by the coder cd, as the JDK does: coder 1 just where some char is above 255 -/
def Cod (cd : Int32) (n : Nat) (f : Nat → Int32) (V : Cell) : Prop := (cd = 0 ∧ V.slots.size = n ∧ ∀ j, j < n → V.slots[j]? = some (.int (lo8 (f j))) ∧ ¬ 255 < f j) ∨ (cd = 1 ∧ V.slots.size = 2 * n ∧ (∀ j, j < n → V.slots[2 * j]? = some (.int (lo8 (f j))) ∧ V.slots[2 * j + 1]? = some (.int (hi8 (f j)))) ∧ ∃ j, j < n ∧ 255 < f j)
/-- **x is a String of the n chars f 0 .. f (n - 1)**, Latin-1 or UTF-16; its array at t has the cell V -/
def Txt (x t : Addr) (V : Cell) (cd : Int32) (n : Nat) (f : Nat → Int32) (U : State) : Prop := Exact "java/lang/String" x U ∧ Has x "java/lang/String" "value" "[B" (.ref t) U ∧ Has x "java/lang/String" "coder" "B" (.int cd) U ∧ XT.Arr .byte t V U ∧ Cod cd n f V ∧ ∀ j, j < n → ¬ f j < 0 ∧ ¬ 65535 < f j
theorem Txt.mv {x t : Addr} {V : Cell} {cd : Int32} {n : Nat} {f : Nat → Int32} {U U' : State} (h : Txt x t V cd n f U) (hal : U.vm.Alike U'.vm) (hh : U'.heap = U.heap) : Txt x t V cd n f U' := ⟨h.1.mv hal hh, h.2.1.mv hal hh, h.2.2.1.mv hal hh, h.2.2.2.1.mv hal hh, h.2.2.2.2⟩
end StrChars
namespace StrChars.Road
open Jvm Sem ClassFile Op Lib Jvm.Stand Jvm.Free Jvm.Free.XT
open Jvm.Lib.Cold (StaticIs)
/-- the bytes of the chars cs, low before high -/
def wideBytes : List Int32 → List Value
  | [] => []
  | c :: cs => .int (lo8 c) :: .int (hi8 c) :: wideBytes cs
theorem wide_lo (d : Value) : ∀ (cs : List Int32) (j : Nat), j < cs.length → (wideBytes cs).getD (2 * j) d = .int (lo8 (cs.getD j 0))
  | [], j, h => absurd h (Nat.not_lt_zero j)
  | c :: cs, 0, _ => rfl
  | c :: cs, j + 1, h => by
    have q := wide_lo d cs j (by simpa using h)
    rw [show 2 * (j + 1) = 2 * j + 1 + 1 from by omega]
    simpa [wideBytes] using q
theorem wide_hi (d : Value) : ∀ (cs : List Int32) (j : Nat), j < cs.length → (wideBytes cs).getD (2 * j + 1) d = .int (hi8 (cs.getD j 0))
  | [], j, h => absurd h (Nat.not_lt_zero j)
  | c :: cs, 0, _ => rfl
  | c :: cs, j + 1, h => by
    have q := wide_hi d cs j (by simpa using h)
    rw [show 2 * (j + 1) + 1 = 2 * j + 1 + 1 + 1 from by omega]
    simpa [wideBytes] using q
theorem low_at (d : Value) (cs : List Int32) (j : Nat) (h : j < cs.length) : (cs.map fun c => Value.int (lo8 c)).getD j d = .int (lo8 (cs.getD j 0)) := by
  simp [List.getD_eq_getElem?_getD, h]
/-- an array of N2 bytes vs codes the chars cs by the coder cd -/
def CodA (cs : List Int32) (cd N2 : Int32) (vs : List Value) : Prop := (cd = 0 ∧ N2 = Int32.ofNat cs.length ∧ vs = (cs.map fun c => Value.int (lo8 c)) ∧ ∀ c ∈ cs, ¬ 255 < c) ∨ (cd = 1 ∧ N2 = Int32.ofNat (2 * cs.length) ∧ vs = wideBytes cs ∧ ∃ c ∈ cs, 255 < c)
theorem CodA.cod {cs : List Int32} {cd N2 : Int32} {vs : List Value} {V : Cell} (h : CodA cs cd N2 vs) (hn : 2 * cs.length < 2 ^ 31) (hs : V.slots.size = N2.toNatClampNeg) (hv : RoadKit.Has V vs (.int 0)) : Cod cd cs.length (fun j => cs.getD j 0) V := by
  rcases h with ⟨rfl, rfl, rfl, h⟩ | ⟨rfl, rfl, rfl, c, hc, hw⟩
  · rw [n32 (by omega)] at hs
    exact Or.inl ⟨rfl, hs, fun j hj => ⟨by rw [hv j (by omega), low_at _ _ _ hj], by
      have e : cs.getD j 0 = cs[j] := by simp [List.getD_eq_getElem?_getD, hj]
      show ¬ 255 < cs.getD j 0
      rw [e]; exact h _ (List.getElem_mem _)⟩⟩
  · rw [n32 (by omega)] at hs
    obtain ⟨j, hj, rfl⟩ := List.getElem_of_mem hc
    exact Or.inr ⟨rfl, hs, fun j hj => ⟨by rw [hv _ (by omega), wide_lo _ _ _ hj], by rw [hv _ (by omega), wide_hi _ _ _ hj]⟩, j, hj, by
      have e : cs.getD j 0 = cs[j] := by simp [List.getD_eq_getElem?_getD, hj]
      show 255 < cs.getD j 0
      rw [e]; exact hw⟩
/-- an object of exactly java/lang/String, its two fields found: as the laws ask it -/
theorem strObj {Z U : State} {a0 : Array Value} {kI : Nat} (wi : (Jvm.Cond.instantiable ST kI).before a0 Z = true) (al : Z.vm.Alike U.vm) {x : Addr} {v0 c0 : Value} (E : RoadKit.Exa Z U.heap x ST) (V : RoadKit.Fld Z U.heap x ST "value" "[B" v0) (C : RoadKit.Fld Z U.heap x ST "coder" "B" c0) :
    ∃ (D : Cell) (fV fC : Field), Blank ST x D U ∧ Found ST "value" "[B" fV U ∧ Found ST "coder" "B" fC U ∧ D.slots[fV.slot]? = some v0 ∧ D.slots[fC.slot]? = some c0 ∧ RoadKit.slotOf Z ST "value" "[B" = fV.slot ∧ RoadKit.slotOf Z ST "coder" "B" = fC.slot := by
  obtain ⟨D, cfV, kV, iV, fV, hD, gV, stV, knV, obV, asV, slV⟩ := V
  obtain ⟨D', cfC, kC, iC, fC, hD', gC, stC, -, -, asC, slC⟩ := C
  cases hD.symm.trans hD'
  obtain ⟨D2, kD, e1, e2, e3, e4, e5⟩ := E
  cases hD.symm.trans e1
  obtain ⟨c2, k2, i1, i2, i3, -⟩ := Cond.instantiable_spec wi
  cases e2.symm.trans i1
  cases e3.symm.trans i2
  obtain ⟨kU, u1, u2⟩ := al.2.2 _ _ e3
  exact ⟨D, fV, fC, ⟨hD, ⟨knV, fun q hq => by rw [hq] at obV; cases obV⟩, by rw [al.findClass]; exact e2, kU, u1, by rw [u2]; exact i3, by rw [u2]; exact e5 i3⟩, ⟨SBG.found_only al ⟨cfV, kV, iV, gV⟩, stV⟩, ⟨SBG.found_only al ⟨cfC, kC, iC, gC⟩, stC⟩, slV, slC, by simp [RoadKit.slotOf, gV], by simp [RoadKit.slotOf, gC]⟩
end StrChars.Road
namespace StrChars
open Jvm Sem ClassFile Op Lib Jvm.Stand Jvm.Free.XT Jvm.Free.ALB Jvm.Free.JM Jvm.Free
open Jvm.Lib.Cold (StaticIs)
namespace Emp
def yN : MethodName := ⟨"java/lang/String", "isEmpty", "()Z"⟩
abbrev yB : ByteArray := jdk_42_method_55_code
theorem d0 : decode yB 0 = .ok (.aload_n 0, 1) := by decide +kernel
theorem d1 : decode yB 1 = .ok (.getfield 9, 3) := by decide +kernel
theorem d4 : decode yB 4 = .ok (.arraylength, 1) := by decide +kernel
theorem d5 : decode yB 5 = .ok (.ifCond (.ne) 7, 3) := by decide +kernel
theorem d8 : decode yB 8 = .ok (.iconst 1, 1) := by decide +kernel
theorem d9 : decode yB 9 = .ok (.goto 4, 3) := by decide +kernel
theorem d12 : decode yB 12 = .ok (.iconst 0, 1) := by decide +kernel
theorem d13 : decode yB 13 = .ok (.ireturn, 1) := by decide +kernel
def site : List Cond := [.fieldLink "java/lang/String" 9 "java/lang/String" "value" "[B"]
def tab : Cond := tabOf yN yB 1 (some .boolean) site
def P (x t : Addr) (V : Cell) (cd : Int32) (n : Nat) (f : Nat → Int32) (args : Array Value) (s : State) : Prop := args = #[.ref x] ∧ Txt x t V cd n f s
def E (n : Nat) (r : Option Value) (s u : State) : Prop := XT.PureE (some (.int (if n = 0 then 1 else 0))) r s u
/-- isEmpty() of a String of n chars -/
theorem law (l : Launch) (x t : Addr) (V : Cell) (cd : Int32) (n : Nat) (f : Nat → Int32) : Law l yN 1 0 0 0 yB 1 (some .boolean) site (P x t V cd n f) (E n) [] 0 0 := by
  refine Law.of_walk (plainFor_of_name (by decide +kernel)) (by decide +kernel) (by decide +kernel) (by decide) (fun _ _ h => by rw [h.1]; rfl) (fun _ U U' hal hh h => ⟨h.1, h.2.mv hal hh⟩) (fun r U U' V V' h1 hal h2 h => XT.PureE.mv r U U' V V' h1 hal h2 h) ?_
  intro p e s m args below meth c s₁ X0 hexec hbytes hml hret hlk hnm hown hh0 W hP
  obtain ⟨rfl, hx⟩ := hP
  have v31 := hx.2.2.2.1.2.2.2
  have c1 : Steps p.tables e below (s₁.setTop (entryFrame m #[.ref x] 1)) (s₁.setTop (mkF m 1 #[.val (.ref x)] [.ref x])) := Steps.trans (entry rfl) (by
    show Steps p.tables e below (s₁.setTop (mkF m 0 #[.val (.ref x)] [])) _
    refine XS.aloadN X0.here hexec rfl (hb hbytes d0) rfl rfl ?_
    exact Steps.refl _)
  obtain ⟨T2, X2, q2, st2⟩ := X0.hget hexec hown (wk W (.fieldLink "java/lang/String" 9 "java/lang/String" "value" "[B")) (hx.mv X0.warmed.alike hh0).2.1 (g := (mkF m 1 #[.val (.ref x)] [.ref x])) rfl (rest := []) rfl (hb hbytes d1)
  have hh2 := q2.trans hh0
  have hx2 := hx.mv X2.warmed.alike hh2
  have c3 : Steps p.tables e below (s₁.setTop (entryFrame m #[.ref x] 1)) (T2.setTop (mkF m 5 #[.val (.ref x)] [.int (Int32.ofNat V.slots.size)])) := (c1.trans (st2 _ (Steps.refl _))).trans (by
    refine X2.alen hexec hx2.2.2.2.1 rfl rfl (hb hbytes d4) ?_
    exact Steps.refl _)
  have hz : V.slots.size = 0 ↔ n = 0 := by
    rcases hx.2.2.2.2.1 with ⟨-, q, -⟩ | ⟨-, q, -⟩ <;> omega
  by_cases h0 : n = 0
  · have c4 : Steps p.tables e below (s₁.setTop (entryFrame m #[.ref x] 1)) (T2.setTop (mkF m 13 #[.val (.ref x)] [.int 1])) := c3.trans (by
      refine XS.ifNo X2.here hexec rfl (hb hbytes d5) rfl (i0_ne_f (by rw [hz.mpr h0]; rfl)) ?_
      refine iconstV X2.here hexec rfl 1 (hb hbytes d8) (by decide) ?_
      refine XS.goto X2.here hexec rfl (pc0 := 9) rfl (hb hbytes d9) (by decide) rfl ?_
      exact Steps.refl _)
    exact ⟨T2, some (.int 1), _, _, _, X2, rfl, rfl, rfl, (fun h => by cases h), ⟨by rw [if_pos h0], hh2⟩, fun fs hl => c4.trans (X2.ireturnOut hexec hret rfl (Or.inr (Or.inl rfl)) (hb hbytes d13) hl)⟩
  · have c4 : Steps p.tables e below (s₁.setTop (entryFrame m #[.ref x] 1)) (T2.setTop (mkF m 13 #[.val (.ref x)] [.int 0])) := c3.trans (by
      refine XS.ifYes X2.here hexec rfl (pc0 := 5) rfl (hb hbytes d5) rfl (i0_ne_t (nz32 v31 (by omega))) (by decide) rfl ?_
      refine iconstV X2.here hexec rfl 0 (hb hbytes d12) (by decide) ?_
      exact Steps.refl _)
    exact ⟨T2, some (.int 0), _, _, _, X2, rfl, rfl, rfl, (fun h => by cases h), ⟨by rw [if_neg h0], hh2⟩, fun fs hl => c4.trans (X2.ireturnOut hexec hret rfl (Or.inr (Or.inl rfl)) (hb hbytes d13) hl)⟩
theorem pays {l : Launch} {R : Room} {p : Program} {e : Env} {below : List Frame} {s : State} {sargs : Array Value} {len W : Nat} (x t : Addr) (V : Cell) (cd : Int32) (n : Nat) (f : Nat → Int32) (htab : tab.before sargs s = true) (hfr : 1 ≤ R.frames) (hlo : W + 12 ≤ R.locals) :
    Back l R p e below s sargs yN len W (fun A₁ a₁ => A₁.cells + 0 ≤ R.cells ∧ A₁.slots + 0 ≤ R.slots ∧ P x t V cd n f a₁ A₁.U) (fun A₁ _ v₁ B₁ => E n v₁ A₁.U B₁.U ∧ B₁.locs = A₁.locs ++ [] ∧ B₁.cells = A₁.cells + 0 ∧ B₁.slots = A₁.slots + 0) :=
  (law l x t V cd n f).pays htab hfr (by omega)
end Emp
end StrChars
namespace StrChars.Road
open Jvm Sem ClassFile Op Lib Jvm.Stand Jvm.Free Jvm.Free.XT
open Jvm.Lib.Cold (StaticIs)
/-- the words of String.isEmpty() -/
abbrev wordsEmp : List Jvm.Cond := [.code Emp.yN Emp.yB 1 (some .boolean), .initialized ST, .fieldLink ST 9 ST "value" "[B"]
theorem tabEmp_of {a : Array Value} {s : State} (h : ∀ w ∈ wordsEmp, w.before a s = true) : Emp.tab.before a s = true := unparts (wk h (.code Emp.yN Emp.yB 1 (some .boolean))) (wks h (.initialized Emp.yN.cls :: Emp.site))
theorem movedEmp {Z s : State} {a0 args : Array Value} (hZ : Z.Warmed39 s.vm) (hw : ∀ d ∈ wordsEmp, d.before a0 Z = true) : ∀ d ∈ wordsEmp, d.before args s = true := fun d hd => by
  have t : ∀ d ∈ wordsEmp, (d.onTables && d.keepsFace) = true := by decide +kernel
  exact RoadKit.mv hZ (hw d hd) (t d hd)
/-- the road's facts of a String, as the laws ask it -/
theorem txt_of {Z U : State} {a0 : Array Value} {kI : Nat} (wi : (Jvm.Cond.instantiable ST kI).before a0 Z = true) (al : Z.vm.Alike U.vm) {x t : Addr} {kb : ClassId} {cs : List Int32} {cd N2 : Int32} {vs : List Value} (E : RoadKit.Exa Z U.heap x ST) (V : RoadKit.Fld Z U.heap x ST "value" "[B" (.ref t)) (C : RoadKit.Fld Z U.heap x ST "coder" "B" (.int cd)) (K : RoadKit.Arv Z U.heap t kb .byte N2 vs (.int 0)) (hc : CodA cs cd N2 vs) (hb : ∀ c ∈ cs, ¬ c < 0 ∧ ¬ (65535 : Int32) < c) (l2 : cs.length ≤ 4000) :
    ∃ A, Txt x t A cd cs.length (fun j => cs.getD j 0) U := by
  obtain ⟨A, K1, K2, K3, K4, K5, K6⟩ := K
  have hcod := hc.cod (by omega) K3 K5
  obtain ⟨D, fV, fC, hB, F1, F2, g1, g2, -, -⟩ := strObj wi al E V C
  exact ⟨A, ⟨_, hB.2.2.1, D, hB.1, rfl, by cases q : D.vm <;> first | rfl | exact absurd q (hB.2.1.2 _)⟩, Has.of hB F1 g1, Has.of hB F2 g2, ⟨K1.1, State.isArrayOf_alike al K1.2.1, K1.2.2, by rcases hcod with ⟨-, q, -⟩ | ⟨-, q, -⟩ <;> omega⟩, hcod, fun j hj => by
    have e : cs.getD j 0 = cs[j] := by simp [List.getD_eq_getElem?_getD, hj]
    show ¬ cs.getD j 0 < 0 ∧ ¬ 65535 < cs.getD j 0
    rw [e]; exact hb _ (List.getElem_mem _)⟩
/-- **isEmpty() OF SUCH A STRING** -/
theorem empW {p : Program} {l : Launch} {e : Env} {R : Room} {s : State} {args : Array Value} {below : List Frame} {len W : Nat} {Z : State} {a0 : Array Value} {h : Heap} (hZ : Z.Warmed39 s.vm) (hw : ∀ d ∈ wordsEmp, d.before a0 Z = true) {kI : Nat} (wi : (Jvm.Cond.instantiable ST kI).before a0 Z = true)
    {x t : Addr} {kb : ClassId} {cs : List Int32} {cd N2 : Int32} {vs : List Value} (E : RoadKit.Exa Z h x ST) (V : RoadKit.Fld Z h x ST "value" "[B" (.ref t)) (C : RoadKit.Fld Z h x ST "coder" "B" (.int cd)) (K : RoadKit.Arv Z h t kb .byte N2 vs (.int 0)) (hc : CodA cs cd N2 vs) (hb : ∀ c ∈ cs, ¬ c < 0 ∧ ¬ (65535 : Int32) < c) (l2 : cs.length ≤ 4000) (hfr : 1 ≤ R.frames) (hlo : W + 12 ≤ R.locals) :
    Back l R p e below s args (⟨"java/lang/String", "isEmpty", "()Z"⟩ : MethodName) len W (fun P a => a = #[.ref x] ∧ P.U.heap = h ∧ P.cells + 0 ≤ R.cells ∧ P.slots + 0 ≤ R.slots)
      (fun P _ v B => ∃ L, (v = some (.int (if cs.length = 0 then 1 else 0)) ∧ L = [] ∧ B.U.heap = h) ∧ B.locs = P.locs ++ L ∧ B.cells = P.cells + 0 ∧ B.slots = P.slots + 0) := by
  intro m meth c P g ig mk a X hg hsize hdg hW hn hp'
  obtain ⟨rfl, rfl, r1, r2⟩ := hp'
  have al : Z.vm.Alike P.U.vm := hZ.alike.trans X.warmed.alike
  obtain ⟨A, hx⟩ := txt_of wi al E V C K hc hb l2
  obtain ⟨v, B, X', ⟨⟨hv, hh⟩, hl, hk, hs⟩, st⟩ := Emp.pays x t A cd cs.length (fun j => cs.getD j 0) (tabEmp_of (movedEmp hZ hw)) hfr hlo m meth c P g ig mk _ X hg hsize hdg hW hn ⟨r1, r2, rfl, hx⟩
  exact ⟨v, B, X', ⟨[], ⟨hv, rfl, hh⟩, hl, hk, hs⟩, st⟩
end StrChars.Road
namespace StrChars.Road
open Jvm Sem ClassFile Op Lib Jvm.Stand Jvm.Free Jvm.Free.XT
open Jvm.Lib.Cold (StaticIs)
/-- what backV says of its String, as the contracts of this text ask it: cs's low bytes, coder 0 -/
theorem codOf {cs : List Int32} {n : Nat} (hn : cs.length = n) (hb : ∀ c ∈ cs, ¬ 255 < c) : CodA cs 0 (Int32.ofNat n) ((cs.map lo8).map Value.int) := Or.inl ⟨rfl, by rw [hn], by simp [List.map_map, Function.comp_def], hb⟩
end StrChars.Road
end Jvm.Pilot.@@N@@
namespace Jvm.RoadKit
open Sem ClassFile Op Lib Jvm.Stand Jvm.Free Jvm.LawKit
section New
variable {p : Program} {l : Launch} {e : Env} {R : Room} {s : State} {m : MethodId} {args : Array Value} {below : List Frame} {meth : Method} {c : Code} {T : State} {locs : List Loc} {cells slots : Nat}
theorem retI (X : Stand p l e R s m args below meth c T locs cells slots) (hx : p.tables.exec = Jvm.exec) {pc : Nat} {Ls : Array Slot} {z : Int32} {rest : List Value} (hret : meth.sig.returnType = some .int) (hd : decode c.code pc = .ok (.ireturn, 1)) {fs : List Frame}
    (hl : ∀ (f : JFrame) (acts : List Action), f.method = m → f.locked = none → f.entered = [] → (doReturn e (T.setTop f) acts (some (.int z))).1 = T.setFrames fs) : Steps p.tables e below (T.setTop (mkF m pc Ls (.int z :: rest))) (T.setFrames fs) := by
  have hm' : T.vm.method? m = some meth := X.method'
  have hn : narrow .int (.int z) = .int z := rfl
  show Steps p.tables e below (T.setTop { method := m, pc := pc, locals := Ls, stack := _ :: rest, locked := none }) _
  jvm_step X.here [X.here.top, hx, hd, hm', hret, hn]
  first | (intro acts; rw [hl _ acts rfl rfl rfl]) | rw [hl _ _ rfl rfl rfl]
  exact Steps.refl _
end New
end Jvm.RoadKit
namespace Jvm.Pilot.@@N@@
open Jvm Jvm.ClassFile Sem Op Lib Jvm.Free Jvm.Stand Jvm.LawKit Jvm.RoadKit Bundle Jvm.Pilot.@@N@@.Jvm.D
/-- where the walk stands, and what is still to come of it -/
abbrev Go (tb : Tables) (e : Env) (below : List Frame) (P : State → Outcome → Prop) (σ : State) : Prop := ∃ s₂ o, Steps tb e below σ s₂ ∧ P s₂ o
theorem go_st {tb : Tables} {e : Env} {below : List Frame} {P : State → Outcome → Prop} {σ σ' : State} (st : ∀ t, Steps tb e below σ' t → Steps tb e below σ t) (k : Go tb e below P σ') : Go tb e below P σ := by
  obtain ⟨a, b, c, d⟩ := k; exact ⟨a, b, st _ c, d⟩
theorem go_tr {tb : Tables} {e : Env} {below : List Frame} {P : State → Outcome → Prop} {σ σ' : State} (st : Steps tb e below σ σ') (k : Go tb e below P σ') : Go tb e below P σ := by
  obtain ⟨a, b, c, d⟩ := k; exact ⟨a, b, st.trans c, d⟩
theorem go_named {tb : Tables} {e : Env} {below : List Frame} {P : State → Outcome → Prop} {σ : State} (k : ∀ P', P' = P → Go tb e below P' σ) : Go tb e below P σ := k P rfl
theorem ext_rfl (h : Heap) : Ext h h := ⟨Nat.le_refl _, fun _ _ q => q⟩
theorem ext_tr {h h' h'' : Heap} (E : Ext h h') (E' : Ext h' h'') : Ext h h'' := ⟨Nat.le_trans E.1 E'.1, fun a c q => E'.2 a c (E.2 a c q)⟩
theorem ext_keep {h h' h'' : Heap} {ws : List Addr} (E : Ext h h') (K : Keep h' h'' ws) (q : ∀ x ∈ ws, h.size ≤ x) : Ext h h'' :=
  ⟨Nat.le_trans E.1 K.1, fun a c r => K.2.1 a c (E.2 a c r) fun z => absurd (Array.getElem?_eq_some_iff.mp r).1 (Nat.not_lt.mpr (q a z))⟩
theorem ext_wr {h h' h'' : Heap} {b : Addr} {sl : Nat} {v : Value} (E : Ext h h') (W : Wr h' h'' b sl v) (q : h.size ≤ b) : Ext h h'' := ext_keep E (Keep.of_wr W) (allS q all0)
theorem keep_of_ext {h h' : Heap} (E : Ext h h') : Keep h h' [] := (Keep.refl h []).ext E
theorem ref_cat {v : Value} (h : v.isRef = true) : v.category = 1 := by rcases ref_cases h with rfl | ⟨a, rfl⟩ <;> rfl
theorem ref_fits {v : Value} (C : String) (h : v.isRef = true) : fits (.object C) v = true := by rcases ref_cases h with rfl | ⟨a, rfl⟩ <;> rfl
theorem ref_narrow {v : Value} (C : String) (h : v.isRef = true) : narrow (.object C) v = v := by rcases ref_cases h with rfl | ⟨a, rfl⟩ <;> rfl
theorem w55 {Z : State} {a0 : Array Value} (hw : ∀ d ∈ tables_1, d.before a0 Z = true) : (Jvm.Cond.stringLink "com/example/credence/credence/CredentialsCompletePinLaw" (7 : Nat) "").before a0 Z = true := hw _ (List.mem_of_getElem? (i := 55) rfl)
theorem pn_java_lang_Record : plainName "java/lang/Record" = true := by first | (simp [plainName, overriddenIn]; done) | decide +kernel
theorem d0_0 : decode jdk_30_method_1_code 0 = .ok (.aload_n 0, 1) := by decide +kernel
theorem d0_1 : decode jdk_30_method_1_code 1 = .ok (.invokespecial 1, 3) := by decide +kernel
theorem w45 {Z : State} {a0 : Array Value} (hw : ∀ d ∈ tables_1, d.before a0 Z = true) : (Jvm.Cond.methodLink "java/lang/Record" (1 : Nat) ({ cls := "java/lang/Object", name := "<init>", desc := "()V" } : Jvm.MethodName)).before a0 Z = true := hw _ (List.mem_of_getElem? (i := 45) rfl)
theorem w16 {Z : State} {a0 : Array Value} (hw : ∀ d ∈ tables_1, d.before a0 Z = true) : (Jvm.Cond.instanceMethod ({ cls := "java/lang/Object", name := "<init>", desc := "()V" } : Jvm.MethodName)).before a0 Z = true := hw _ (List.mem_of_getElem? (i := 16) rfl)
theorem w17 {Z : State} {a0 : Array Value} (hw : ∀ d ∈ tables_1, d.before a0 Z = true) : (Jvm.Cond.code ({ cls := "java/lang/Object", name := "<init>", desc := "()V" } : Jvm.MethodName) object_method_1_code (1 : Nat) (Option.none : Option Jvm.ClassFile.FieldType)).before a0 Z = true := hw _ (List.mem_of_getElem? (i := 17) rfl)
theorem d0_4 : decode jdk_30_method_1_code 4 = .ok (.return_, 1) := by decide +kernel
theorem pn_com_example_credence_credence_Credentials : plainName "com/example/credence/credence/Credentials" = true := by first | (simp [plainName, overriddenIn]; done) | decide +kernel
theorem d1_0 : decode prog_3_method_1_code 0 = .ok (.aload_n 0, 1) := by decide +kernel
theorem d1_1 : decode prog_3_method_1_code 1 = .ok (.invokespecial 1, 3) := by decide +kernel
theorem w44 {Z : State} {a0 : Array Value} (hw : ∀ d ∈ tables_1, d.before a0 Z = true) : (Jvm.Cond.code ({ cls := "java/lang/Record", name := "<init>", desc := "()V" } : Jvm.MethodName) jdk_30_method_1_code (1 : Nat) (Option.none : Option Jvm.ClassFile.FieldType)).before a0 Z = true := hw _ (List.mem_of_getElem? (i := 44) rfl)
theorem w43 {Z : State} {a0 : Array Value} (hw : ∀ d ∈ tables_1, d.before a0 Z = true) : (Jvm.Cond.initialized "java/lang/Record").before a0 Z = true := hw _ (List.mem_of_getElem? (i := 43) rfl)
theorem pd_0 : parseMethodDescriptor "()V" = some ⟨[], none⟩ := by decide +kernel
theorem w40 {Z : State} {a0 : Array Value} (hw : ∀ d ∈ tables_1, d.before a0 Z = true) : (Jvm.Cond.methodLink "com/example/credence/credence/Credentials" (1 : Nat) ({ cls := "java/lang/Record", name := "<init>", desc := "()V" } : Jvm.MethodName)).before a0 Z = true := hw _ (List.mem_of_getElem? (i := 40) rfl)
theorem w41 {Z : State} {a0 : Array Value} (hw : ∀ d ∈ tables_1, d.before a0 Z = true) : (Jvm.Cond.instanceMethod ({ cls := "java/lang/Record", name := "<init>", desc := "()V" } : Jvm.MethodName)).before a0 Z = true := hw _ (List.mem_of_getElem? (i := 41) rfl)
theorem d1_4 : decode prog_3_method_1_code 4 = .ok (.aload_n 0, 1) := by decide +kernel
theorem d1_5 : decode prog_3_method_1_code 5 = .ok (.aload_n 1, 1) := by decide +kernel
theorem d1_6 : decode prog_3_method_1_code 6 = .ok (.putfield 7, 3) := by decide +kernel
theorem w46 {Z : State} {a0 : Array Value} (hw : ∀ d ∈ tables_1, d.before a0 Z = true) : (Jvm.Cond.fieldLink "com/example/credence/credence/Credentials" (7 : Nat) "com/example/credence/credence/Credentials" "username" "Ljava/lang/String;").before a0 Z = true := hw _ (List.mem_of_getElem? (i := 46) rfl)
theorem w47 {Z : State} {a0 : Array Value} (hw : ∀ d ∈ tables_1, d.before a0 Z = true) : (Jvm.Cond.laysFinal "com/example/credence/credence/Credentials" "com/example/credence/credence/Credentials" "username" "Ljava/lang/String;").before a0 Z = true := hw _ (List.mem_of_getElem? (i := 47) rfl)
theorem w35 {Z : State} {a0 : Array Value} (hw : ∀ d ∈ tables_1, d.before a0 Z = true) : (Jvm.Cond.instantiable "com/example/credence/credence/Credentials" (2 : Nat)).before a0 Z = true := hw _ (List.mem_of_getElem? (i := 35) rfl)
theorem d1_9 : decode prog_3_method_1_code 9 = .ok (.aload_n 0, 1) := by decide +kernel
theorem d1_10 : decode prog_3_method_1_code 10 = .ok (.aload_n 2, 1) := by decide +kernel
theorem d1_11 : decode prog_3_method_1_code 11 = .ok (.putfield 13, 3) := by decide +kernel
theorem w48 {Z : State} {a0 : Array Value} (hw : ∀ d ∈ tables_1, d.before a0 Z = true) : (Jvm.Cond.fieldLink "com/example/credence/credence/Credentials" (13 : Nat) "com/example/credence/credence/Credentials" "password" "Ljava/lang/String;").before a0 Z = true := hw _ (List.mem_of_getElem? (i := 48) rfl)
theorem w49 {Z : State} {a0 : Array Value} (hw : ∀ d ∈ tables_1, d.before a0 Z = true) : (Jvm.Cond.laysFinal "com/example/credence/credence/Credentials" "com/example/credence/credence/Credentials" "password" "Ljava/lang/String;").before a0 Z = true := hw _ (List.mem_of_getElem? (i := 49) rfl)
theorem d1_14 : decode prog_3_method_1_code 14 = .ok (.return_, 1) := by decide +kernel
theorem d2_0 : decode prog_3_method_2_code 0 = .ok (.aload_n 0, 1) := by decide +kernel
theorem d2_1 : decode prog_3_method_2_code 1 = .ok (.getfield 7, 3) := by decide +kernel
theorem d2_4 : decode prog_3_method_2_code 4 = .ok (.ifnull 34, 3) := by decide +kernel
theorem d2_38 : decode prog_3_method_2_code 38 = .ok (.iconst 0, 1) := by decide +kernel
theorem d2_39 : decode prog_3_method_2_code 39 = .ok (.ireturn, 1) := by decide +kernel
theorem d2_7 : decode prog_3_method_2_code 7 = .ok (.aload_n 0, 1) := by decide +kernel
theorem d2_8 : decode prog_3_method_2_code 8 = .ok (.getfield 7, 3) := by decide +kernel
theorem d2_11 : decode prog_3_method_2_code 11 = .ok (.invokevirtual 16, 3) := by decide +kernel
theorem w6 {Z : State} {a0 : Array Value} (hw : ∀ d ∈ tables_1, d.before a0 Z = true) : (Jvm.Cond.instantiable "java/lang/String" (4 : Nat)).before a0 Z = true := hw _ (List.mem_of_getElem? (i := 6) rfl)
theorem pd_1 : parseMethodDescriptor "()Z" = some ⟨[], some .boolean⟩ := by decide +kernel
theorem w58 {Z : State} {a0 : Array Value} (hw : ∀ d ∈ tables_1, d.before a0 Z = true) : (Jvm.Cond.methodLink "com/example/credence/credence/Credentials" (16 : Nat) ({ cls := "java/lang/String", name := "isEmpty", desc := "()Z" } : Jvm.MethodName)).before a0 Z = true := hw _ (List.mem_of_getElem? (i := 58) rfl)
theorem w61 {Z : State} {a0 : Array Value} (hw : ∀ d ∈ tables_1, d.before a0 Z = true) : (Jvm.Cond.selects "java/lang/String" ({ cls := "java/lang/String", name := "isEmpty", desc := "()Z" } : Jvm.MethodName) ({ cls := "java/lang/String", name := "isEmpty", desc := "()Z" } : Jvm.MethodName)).before a0 Z = true := hw _ (List.mem_of_getElem? (i := 61) rfl)
theorem w59 {Z : State} {a0 : Array Value} (hw : ∀ d ∈ tables_1, d.before a0 Z = true) : (Jvm.Cond.declares ({ cls := "java/lang/String", name := "isEmpty", desc := "()Z" } : Jvm.MethodName)).before a0 Z = true := hw _ (List.mem_of_getElem? (i := 59) rfl)
theorem w60 {Z : State} {a0 : Array Value} (hw : ∀ d ∈ tables_1, d.before a0 Z = true) : (Jvm.Cond.instanceMethod ({ cls := "java/lang/String", name := "isEmpty", desc := "()Z" } : Jvm.MethodName)).before a0 Z = true := hw _ (List.mem_of_getElem? (i := 60) rfl)
theorem d2_14 : decode prog_3_method_2_code 14 = .ok (.ifCond .ne 24, 3) := by decide +kernel
theorem d2_17 : decode prog_3_method_2_code 17 = .ok (.aload_n 0, 1) := by decide +kernel
theorem d2_18 : decode prog_3_method_2_code 18 = .ok (.getfield 13, 3) := by decide +kernel
theorem d2_21 : decode prog_3_method_2_code 21 = .ok (.ifnull 17, 3) := by decide +kernel
theorem d2_24 : decode prog_3_method_2_code 24 = .ok (.aload_n 0, 1) := by decide +kernel
theorem d2_25 : decode prog_3_method_2_code 25 = .ok (.getfield 13, 3) := by decide +kernel
theorem d2_28 : decode prog_3_method_2_code 28 = .ok (.invokevirtual 16, 3) := by decide +kernel
theorem d2_31 : decode prog_3_method_2_code 31 = .ok (.ifCond .ne 7, 3) := by decide +kernel
theorem d2_34 : decode prog_3_method_2_code 34 = .ok (.iconst 1, 1) := by decide +kernel
theorem d2_35 : decode prog_3_method_2_code 35 = .ok (.goto 4, 3) := by decide +kernel
theorem pn_com_example_credence_credence_CredentialsCompletePinLaw : plainName "com/example/credence/credence/CredentialsCompletePinLaw" = true := by first | (simp [plainName, overriddenIn]; done) | decide +kernel
theorem d3_0 : decode method_2_code 0 = .ok (.iload_n 0, 1) := by decide +kernel
theorem d3_1 : decode method_2_code 1 = .ok (.iconst 3, 1) := by decide +kernel
theorem d3_2 : decode method_2_code 2 = .ok (.iand, 1) := by decide +kernel
theorem d3_3 : decode method_2_code 3 = .ok (.istore_n 3, 1) := by decide +kernel
theorem d3_4 : decode method_2_code 4 = .ok (.iload_n 3, 1) := by decide +kernel
theorem d3_5 : decode method_2_code 5 = .ok (.ifCond .ne 5, 3) := by decide +kernel
theorem d3_8 : decode method_2_code 8 = .ok (.aconst_null, 1) := by decide +kernel
theorem d3_9 : decode method_2_code 9 = .ok (.areturn, 1) := by decide +kernel
theorem d3_10 : decode method_2_code 10 = .ok (.iload_n 3, 1) := by decide +kernel
theorem d3_11 : decode method_2_code 11 = .ok (.iconst 1, 1) := by decide +kernel
theorem d3_12 : decode method_2_code 12 = .ok (.if_icmp .ne 6, 3) := by decide +kernel
theorem d3_15 : decode method_2_code 15 = .ok (.ldc 7, 2) := by decide +kernel
theorem d3_17 : decode method_2_code 17 = .ok (.areturn, 1) := by decide +kernel
theorem d3_18 : decode method_2_code 18 = .ok (.iload_n 3, 1) := by decide +kernel
theorem d3_19 : decode method_2_code 19 = .ok (.iconst 2, 1) := by decide +kernel
theorem d3_20 : decode method_2_code 20 = .ok (.if_icmp .ne 28, 3) := by decide +kernel
theorem d3_23 : decode method_2_code 23 = .ok (.iconst 1, 1) := by decide +kernel
theorem d3_24 : decode method_2_code 24 = .ok (.newarray .char, 2) := by decide +kernel
theorem w4 {Z : State} {a0 : Array Value} (hw : ∀ d ∈ tables_1, d.before a0 Z = true) : (Jvm.Cond.arrayClass Jvm.ClassFile.FieldType.char).before a0 Z = true := hw _ (List.mem_of_getElem? (i := 4) rfl)
theorem d3_26 : decode method_2_code 26 = .ok (.astore 4, 2) := by decide +kernel
theorem d3_28 : decode method_2_code 28 = .ok (.aload 4, 2) := by decide +kernel
theorem d3_30 : decode method_2_code 30 = .ok (.iconst 0, 1) := by decide +kernel
theorem d3_31 : decode method_2_code 31 = .ok (.iload_n 1, 1) := by decide +kernel
theorem d3_32 : decode method_2_code 32 = .ok (.sipush 255, 3) := by decide +kernel
theorem d3_35 : decode method_2_code 35 = .ok (.iand, 1) := by decide +kernel
theorem d3_36 : decode method_2_code 36 = .ok (.i2c, 1) := by decide +kernel
theorem d3_37 : decode method_2_code 37 = .ok (.castore, 1) := by decide +kernel
theorem d3_38 : decode method_2_code 38 = .ok (.new 9, 3) := by decide +kernel
theorem w5 {Z : State} {a0 : Array Value} (hw : ∀ d ∈ tables_1, d.before a0 Z = true) : (Jvm.Cond.classLink "com/example/credence/credence/CredentialsCompletePinLaw" (9 : Nat) "java/lang/String").before a0 Z = true := hw _ (List.mem_of_getElem? (i := 5) rfl)
theorem w7 {Z : State} {a0 : Array Value} (hw : ∀ d ∈ tables_1, d.before a0 Z = true) : (Jvm.Cond.initialized "java/lang/String").before a0 Z = true := hw _ (List.mem_of_getElem? (i := 7) rfl)
theorem w31 {Z : State} {a0 : Array Value} (hw : ∀ d ∈ tables_1, d.before a0 Z = true) : (Jvm.Cond.laysFinal "java/lang/String" "java/lang/String" "coder" "B").before a0 Z = true := hw _ (List.mem_of_getElem? (i := 31) rfl)
theorem w33 {Z : State} {a0 : Array Value} (hw : ∀ d ∈ tables_1, d.before a0 Z = true) : (Jvm.Cond.laysFinal "java/lang/String" "java/lang/String" "value" "[B").before a0 Z = true := hw _ (List.mem_of_getElem? (i := 33) rfl)
theorem d3_41 : decode method_2_code 41 = .ok (.dup, 1) := by decide +kernel
theorem d3_42 : decode method_2_code 42 = .ok (.aload 4, 2) := by decide +kernel
theorem d3_44 : decode method_2_code 44 = .ok (.invokespecial 11, 3) := by decide +kernel
theorem pd_2 : parseMethodDescriptor "([C)V" = some ⟨[(.array .char)], none⟩ := by decide +kernel
theorem w8 {Z : State} {a0 : Array Value} (hw : ∀ d ∈ tables_1, d.before a0 Z = true) : (Jvm.Cond.methodLink "com/example/credence/credence/CredentialsCompletePinLaw" (11 : Nat) ({ cls := "java/lang/String", name := "<init>", desc := "([C)V" } : Jvm.MethodName)).before a0 Z = true := hw _ (List.mem_of_getElem? (i := 8) rfl)
theorem w9 {Z : State} {a0 : Array Value} (hw : ∀ d ∈ tables_1, d.before a0 Z = true) : (Jvm.Cond.instanceMethod ({ cls := "java/lang/String", name := "<init>", desc := "([C)V" } : Jvm.MethodName)).before a0 Z = true := hw _ (List.mem_of_getElem? (i := 9) rfl)
theorem w10 {Z : State} {a0 : Array Value} (hw : ∀ d ∈ tables_1, d.before a0 Z = true) : (Jvm.Cond.code ({ cls := "java/lang/String", name := "<init>", desc := "([C)V" } : Jvm.MethodName) jdk_42_method_3_code (2 : Nat) (Option.none : Option Jvm.ClassFile.FieldType)).before a0 Z = true := hw _ (List.mem_of_getElem? (i := 10) rfl)
theorem d3_47 : decode method_2_code 47 = .ok (.areturn, 1) := by decide +kernel
theorem d3_48 : decode method_2_code 48 = .ok (.iconst 2, 1) := by decide +kernel
theorem d3_49 : decode method_2_code 49 = .ok (.newarray .char, 2) := by decide +kernel
theorem d3_51 : decode method_2_code 51 = .ok (.astore 4, 2) := by decide +kernel
theorem d3_53 : decode method_2_code 53 = .ok (.aload 4, 2) := by decide +kernel
theorem d3_55 : decode method_2_code 55 = .ok (.iconst 0, 1) := by decide +kernel
theorem d3_56 : decode method_2_code 56 = .ok (.iload_n 1, 1) := by decide +kernel
theorem d3_57 : decode method_2_code 57 = .ok (.sipush 255, 3) := by decide +kernel
theorem d3_60 : decode method_2_code 60 = .ok (.iand, 1) := by decide +kernel
theorem d3_61 : decode method_2_code 61 = .ok (.i2c, 1) := by decide +kernel
theorem d3_62 : decode method_2_code 62 = .ok (.castore, 1) := by decide +kernel
theorem d3_63 : decode method_2_code 63 = .ok (.aload 4, 2) := by decide +kernel
theorem d3_65 : decode method_2_code 65 = .ok (.iconst 1, 1) := by decide +kernel
theorem d3_66 : decode method_2_code 66 = .ok (.iload_n 2, 1) := by decide +kernel
theorem d3_67 : decode method_2_code 67 = .ok (.sipush 255, 3) := by decide +kernel
theorem d3_70 : decode method_2_code 70 = .ok (.iand, 1) := by decide +kernel
theorem d3_71 : decode method_2_code 71 = .ok (.i2c, 1) := by decide +kernel
theorem d3_72 : decode method_2_code 72 = .ok (.castore, 1) := by decide +kernel
theorem d3_73 : decode method_2_code 73 = .ok (.new 9, 3) := by decide +kernel
theorem d3_76 : decode method_2_code 76 = .ok (.dup, 1) := by decide +kernel
theorem d3_77 : decode method_2_code 77 = .ok (.aload 4, 2) := by decide +kernel
theorem d3_79 : decode method_2_code 79 = .ok (.invokespecial 11, 3) := by decide +kernel
theorem d3_82 : decode method_2_code 82 = .ok (.areturn, 1) := by decide +kernel
theorem w3 {Z : State} {a0 : Array Value} (hw : ∀ d ∈ tables_1, d.before a0 Z = true) : (Jvm.Cond.code ({ cls := "com/example/credence/credence/CredentialsCompletePinLaw", name := "make", desc := "(III)Ljava/lang/String;" } : Jvm.MethodName) method_2_code (5 : Nat) (Option.some (Jvm.ClassFile.FieldType.object "java/lang/String"))).before a0 Z = true := hw _ (List.mem_of_getElem? (i := 3) rfl)
theorem w2 {Z : State} {a0 : Array Value} (hw : ∀ d ∈ tables_1, d.before a0 Z = true) : (Jvm.Cond.initialized "com/example/credence/credence/CredentialsCompletePinLaw").before a0 Z = true := hw _ (List.mem_of_getElem? (i := 2) rfl)
theorem pd_3 : parseMethodDescriptor "(III)Ljava/lang/String;" = some ⟨[.int, .int, .int], some (.object "java/lang/String")⟩ := by decide +kernel
theorem w0 {Z : State} {a0 : Array Value} (hw : ∀ d ∈ tables_1, d.before a0 Z = true) : (Jvm.Cond.methodLink "com/example/credence/credence/CredentialsCompletePinLaw" (14 : Nat) ({ cls := "com/example/credence/credence/CredentialsCompletePinLaw", name := "make", desc := "(III)Ljava/lang/String;" } : Jvm.MethodName)).before a0 Z = true := hw _ (List.mem_of_getElem? (i := 0) rfl)
theorem w1 {Z : State} {a0 : Array Value} (hw : ∀ d ∈ tables_1, d.before a0 Z = true) : (Jvm.Cond.static ({ cls := "com/example/credence/credence/CredentialsCompletePinLaw", name := "make", desc := "(III)Ljava/lang/String;" } : Jvm.MethodName)).before a0 Z = true := hw _ (List.mem_of_getElem? (i := 1) rfl)
theorem w34 {Z : State} {a0 : Array Value} (hw : ∀ d ∈ tables_1, d.before a0 Z = true) : (Jvm.Cond.classLink "com/example/credence/credence/CredentialsCompletePinLaw" (20 : Nat) "com/example/credence/credence/Credentials").before a0 Z = true := hw _ (List.mem_of_getElem? (i := 34) rfl)
theorem w36 {Z : State} {a0 : Array Value} (hw : ∀ d ∈ tables_1, d.before a0 Z = true) : (Jvm.Cond.initialized "com/example/credence/credence/Credentials").before a0 Z = true := hw _ (List.mem_of_getElem? (i := 36) rfl)
theorem w39 {Z : State} {a0 : Array Value} (hw : ∀ d ∈ tables_1, d.before a0 Z = true) : (Jvm.Cond.code ({ cls := "com/example/credence/credence/Credentials", name := "<init>", desc := "(Ljava/lang/String;Ljava/lang/String;)V" } : Jvm.MethodName) prog_3_method_1_code (3 : Nat) (Option.none : Option Jvm.ClassFile.FieldType)).before a0 Z = true := hw _ (List.mem_of_getElem? (i := 39) rfl)
theorem pd_4 : parseMethodDescriptor "(Ljava/lang/String;Ljava/lang/String;)V" = some ⟨[(.object "java/lang/String"), (.object "java/lang/String")], none⟩ := by decide +kernel
theorem w37 {Z : State} {a0 : Array Value} (hw : ∀ d ∈ tables_1, d.before a0 Z = true) : (Jvm.Cond.methodLink "com/example/credence/credence/CredentialsCompletePinLaw" (22 : Nat) ({ cls := "com/example/credence/credence/Credentials", name := "<init>", desc := "(Ljava/lang/String;Ljava/lang/String;)V" } : Jvm.MethodName)).before a0 Z = true := hw _ (List.mem_of_getElem? (i := 37) rfl)
theorem w38 {Z : State} {a0 : Array Value} (hw : ∀ d ∈ tables_1, d.before a0 Z = true) : (Jvm.Cond.instanceMethod ({ cls := "com/example/credence/credence/Credentials", name := "<init>", desc := "(Ljava/lang/String;Ljava/lang/String;)V" } : Jvm.MethodName)).before a0 Z = true := hw _ (List.mem_of_getElem? (i := 38) rfl)
theorem w54 {Z : State} {a0 : Array Value} (hw : ∀ d ∈ tables_1, d.before a0 Z = true) : (Jvm.Cond.code ({ cls := "com/example/credence/credence/Credentials", name := "complete", desc := "()Z" } : Jvm.MethodName) prog_3_method_2_code (1 : Nat) (Option.some Jvm.ClassFile.FieldType.boolean)).before a0 Z = true := hw _ (List.mem_of_getElem? (i := 54) rfl)
theorem w50 {Z : State} {a0 : Array Value} (hw : ∀ d ∈ tables_1, d.before a0 Z = true) : (Jvm.Cond.methodLink "com/example/credence/credence/CredentialsCompletePinLaw" (25 : Nat) ({ cls := "com/example/credence/credence/Credentials", name := "complete", desc := "()Z" } : Jvm.MethodName)).before a0 Z = true := hw _ (List.mem_of_getElem? (i := 50) rfl)
theorem w53 {Z : State} {a0 : Array Value} (hw : ∀ d ∈ tables_1, d.before a0 Z = true) : (Jvm.Cond.selects "com/example/credence/credence/Credentials" ({ cls := "com/example/credence/credence/Credentials", name := "complete", desc := "()Z" } : Jvm.MethodName) ({ cls := "com/example/credence/credence/Credentials", name := "complete", desc := "()Z" } : Jvm.MethodName)).before a0 Z = true := hw _ (List.mem_of_getElem? (i := 53) rfl)
theorem w51 {Z : State} {a0 : Array Value} (hw : ∀ d ∈ tables_1, d.before a0 Z = true) : (Jvm.Cond.declares ({ cls := "com/example/credence/credence/Credentials", name := "complete", desc := "()Z" } : Jvm.MethodName)).before a0 Z = true := hw _ (List.mem_of_getElem? (i := 51) rfl)
theorem w52 {Z : State} {a0 : Array Value} (hw : ∀ d ∈ tables_1, d.before a0 Z = true) : (Jvm.Cond.instanceMethod ({ cls := "com/example/credence/credence/Credentials", name := "complete", desc := "()Z" } : Jvm.MethodName)).before a0 Z = true := hw _ (List.mem_of_getElem? (i := 52) rfl)
theorem w23 {Z : State} {a0 : Array Value} (hw : ∀ d ∈ tables_1, d.before a0 Z = true) : (Jvm.Cond.arrayClass Jvm.ClassFile.FieldType.byte).before a0 Z = true := hw _ (List.mem_of_getElem? (i := 23) rfl)
theorem and255_chars (x : Int32) : ¬ nar .char ((x &&& (255 : Int32)).toUInt32.toUInt16.toUInt32.toInt32) < 0 ∧ ¬ (255 : Int32) < nar .char ((x &&& (255 : Int32)).toUInt32.toUInt16.toUInt32.toInt32) := by
  have t : ∀ k : Fin 256, ¬ nar .char ((Int32.ofNat k.val).toUInt32.toUInt16.toUInt32.toInt32) < 0 ∧ ¬ (255 : Int32) < nar .char ((Int32.ofNat k.val).toUInt32.toUInt16.toUInt32.toInt32) := by decide +kernel
  have h : (x &&& 255).toBitVec.toNat < 256 := by
    simp only [Int32.toBitVec_and, BitVec.toNat_and]
    exact Nat.lt_succ_of_le Nat.and_le_right
  have e : (x &&& 255) = Int32.ofNat (x &&& 255).toBitVec.toNat := by
    apply Int32.toBitVec_inj.mp
    show _ = BitVec.ofNat 32 _
    rw [BitVec.ofNat_toNat]; simp
  rw [e]
  exact t ⟨_, h⟩
theorem chars_nil : ∀ c ∈ ([] : List Int32), ¬ c < 0 ∧ ¬ (255 : Int32) < c := fun _ h => nomatch h
theorem chars_cons {c : Int32} {L : List Int32} (h : ¬ c < 0 ∧ ¬ (255 : Int32) < c) (r : ∀ c ∈ L, ¬ c < 0 ∧ ¬ (255 : Int32) < c) : ∀ d ∈ c :: L, ¬ d < 0 ∧ ¬ (255 : Int32) < d := fun d q => (List.mem_cons.mp q).elim (fun u => u ▸ h) (r d)
theorem words_in (hs : ∀ d ∈ StrChars.Road.words, d ∈ tables_1) {Z : State} {a0 : Array Value} (hw : ∀ d ∈ tables_1, d.before a0 Z = true) : ∀ d ∈ StrChars.Road.words, d.before a0 Z = true := fun d hd => hw d (hs d hd)
theorem str_words : ∀ d ∈ StrChars.Road.words, d ∈ tables_1 := by decide +kernel
/-- a String whose chars are cs: its object, its byte[] -/
def Str (Z : State) (h : Heap) (a t : Addr) (cs : List Int32) : Prop := Exa Z h a "java/lang/String" ∧ ∃ (cd N2 : Int32) (kb : ClassId) (vs : List Value), Fld Z h a "java/lang/String" "value" "[B" (.ref t) ∧ Fld Z h a "java/lang/String" "coder" "B" (.int cd) ∧ Arv Z h t kb .byte N2 vs (.int 0) ∧ StrChars.Road.CodA cs cd N2 vs ∧ (∀ c ∈ cs, ¬ c < 0 ∧ ¬ (65535 : Int32) < c) ∧ cs.length ≤ 4000
theorem Str.ext {Z : State} {h h' : Heap} {a t : Addr} {cs : List Int32} (F : Str Z h a t cs) (E : Ext h h') : Str Z h' a t cs := by
  obtain ⟨x, cd, N2, kb, vs, V, C, K, r⟩ := F; exact ⟨x.ext E, cd, N2, kb, vs, V.ext E, C.ext E, K.ext E, r⟩
theorem Str.keep {Z : State} {h h' : Heap} {a t : Addr} {cs : List Int32} {ws : List Addr} (F : Str Z h a t cs) (E : Keep h h' ws) (q1 : a ∉ ws) (q2 : t ∉ ws) : Str Z h' a t cs := by
  obtain ⟨x, cd, N2, kb, vs, V, C, K, r⟩ := F; exact ⟨x.keep E, cd, N2, kb, vs, V.keep E q1, C.keep E q1, K.keep E q2, r⟩
theorem Str.wr {Z : State} {h h' : Heap} {a t b : Addr} {cs : List Int32} {sl : Nat} {v : Value} (F : Str Z h a t cs) (W : Wr h h' b sl v) (q1 : a ≠ b) (q2 : t ≠ b) : Str Z h' a t cs := by
  obtain ⟨x, cd, N2, kb, vs, V, C, K, r⟩ := F; exact ⟨x.wr W, cd, N2, kb, vs, V.other W (Or.inl q1), C.other W (Or.inl q1), K.other W q2, r⟩
theorem Str.keepC {Z : State} {h h' : Heap} {a t b : Addr} {cs : List Int32} {C : String} {k : Nat} {a0 : Array Value} (F : Str Z h a t cs) (K : Keep h h' [b]) (E : Exa Z h b C) (wi : (Jvm.Cond.instantiable C k).before a0 Z = true) (hC : C ≠ "java/lang/String") : Str Z h' a t cs := by
  refine F.keep K (ninS (ne_exa F.1 E (Ne.symm hC)) nin0) (ninS ?_ nin0)
  obtain ⟨-, cd, N2, kb, vs, -, -, ⟨cl, Ar, -⟩, -⟩ := F
  exact Ne.symm (ne_arr E wi Ar)
theorem Str.lt {Z : State} {h : Heap} {a t : Addr} {cs : List Int32} (F : Str Z h a t cs) : a < h.size := F.1.lt
theorem Str.ltT {Z : State} {h : Heap} {a t : Addr} {cs : List Int32} (F : Str Z h a t cs) : t < h.size := by obtain ⟨-, cd, N2, kb, vs, -, -, K, -⟩ := F; exact K.lt
theorem chars_up {cs : List Int32} (h : ∀ c ∈ cs, ¬ c < 0 ∧ ¬ (255 : Int32) < c) : ∀ c ∈ cs, ¬ c < 0 ∧ ¬ (65535 : Int32) < c := fun c hc => ⟨(h c hc).1, fun q => (h c hc).2 (by rw [Int32.lt_iff_toInt_lt] at q ⊢; have e1 : (65535 : Int32).toInt = 65535 := rfl; have e2 : (255 : Int32).toInt = 255 := rfl; omega)⟩
theorem Str.of {Z : State} {h : Heap} {a t : Addr} {kb : ClassId} {cs : List Int32} {n : Nat} (E : Exa Z h a "java/lang/String") (V : Fld Z h a "java/lang/String" "value" "[B" (.ref t)) (C : Fld Z h a "java/lang/String" "coder" "B" (.int 0)) (K : Arv Z h t kb .byte (Int32.ofNat n) ((cs.map (fun c => c.toInt8.toInt32)).map Value.int) (.int 0))
    (hn : cs.length = n) (hl : n ≤ 4000) (hp : ∀ c ∈ cs, ¬ c < 0 ∧ ¬ (255 : Int32) < c) : Str Z h a t cs :=
  ⟨E, 0, _, kb, _, V, C, K, StrChars.Road.codOf hn (fun c hc => (hp c hc).2), chars_up hp, hn ▸ hl⟩
theorem emp_words : ∀ d ∈ StrChars.Road.wordsEmp, d ∈ tables_1 := by decide +kernel
theorem empS {p : Program} {l : Launch} {e : Env} {R : Room} {s : State} {args : Array Value} {below : List Frame} {len W : Nat} {Z : State} {a0 : Array Value} {h : Heap} (hZ : Z.Warmed39 s.vm) (hw : ∀ d ∈ tables_1, d.before a0 Z = true) {kI : Nat} (wi : (Jvm.Cond.instantiable "java/lang/String" kI).before a0 Z = true)
    {x t : Addr} {cs : List Int32} (F : Str Z h x t cs) (hfr : 1 ≤ R.frames) (hlo : W + 12 ≤ R.locals) :
    Back l R p e below s args (⟨"java/lang/String", "isEmpty", "()Z"⟩ : MethodName) len W (fun P a => a = #[.ref x] ∧ P.U.heap = h ∧ P.cells + 0 ≤ R.cells ∧ P.slots + 0 ≤ R.slots)
      (fun P _ v B => ∃ L, (v = some (.int (if cs.length = 0 then 1 else 0)) ∧ L = [] ∧ B.U.heap = h) ∧ B.locs = P.locs ++ L ∧ B.cells = P.cells + 0 ∧ B.slots = P.slots + 0) := by
  obtain ⟨E, cd, N2, kb, vs, V, C, K, hc, hb, l2⟩ := F
  exact StrChars.Road.empW hZ (fun d hd => hw d (emp_words d hd)) wi E V C K hc hb l2 hfr hlo
/-- null, an empty String, or one that isn't empty -/
def OStr (Z : State) (h : Heap) (v : Value) (ne : Bool) : Prop := (v = .null ∧ ne = false) ∨ (∃ a t : Addr, v = .ref a ∧ Str Z h a t [] ∧ ne = false) ∨ (∃ (a t : Addr) (c : Int32) (cs : List Int32), v = .ref a ∧ Str Z h a t (c :: cs) ∧ ne = true)
theorem OStr.ext {Z : State} {h h' : Heap} {v : Value} {ne : Bool} (F : OStr Z h v ne) (E : Ext h h') : OStr Z h' v ne := by
  rcases F with F | ⟨a, t, r1, r2, r3⟩ | ⟨a, t, c, cs, r1, r2, r3⟩
  · exact Or.inl F
  · exact Or.inr (Or.inl ⟨a, t, r1, r2.ext E, r3⟩)
  · exact Or.inr (Or.inr ⟨a, t, c, cs, r1, r2.ext E, r3⟩)
theorem OStr.keepC {Z : State} {h h' : Heap} {v : Value} {ne : Bool} {b : Addr} {C : String} {k : Nat} {a0 : Array Value} (F : OStr Z h v ne) (K : Keep h h' [b]) (E : Exa Z h b C) (wi : (Jvm.Cond.instantiable C k).before a0 Z = true) (hC : C ≠ "java/lang/String") : OStr Z h' v ne := by
  rcases F with F | ⟨a, t, r1, r2, r3⟩ | ⟨a, t, c, cs, r1, r2, r3⟩
  · exact Or.inl F
  · exact Or.inr (Or.inl ⟨a, t, r1, r2.keepC K E wi hC, r3⟩)
  · exact Or.inr (Or.inr ⟨a, t, c, cs, r1, r2.keepC K E wi hC, r3⟩)
theorem OStr.isRef {Z : State} {h : Heap} {v : Value} {ne : Bool} (F : OStr Z h v ne) : v.isRef = true := by
  rcases F with ⟨rfl, -⟩ | ⟨a, t, rfl, -⟩ | ⟨a, t, c, cs, rfl, -⟩ <;> rfl
theorem and3 (x : Int32) : x &&& (3 : Int32) = 0 ∨ x &&& (3 : Int32) = 1 ∨ x &&& (3 : Int32) = 2 ∨ x &&& (3 : Int32) = 3 := by
  have h := c_and x 3 (by decide); have h3 : (3 : Int32).toInt = 3 := rfl
  have e : x &&& 3 = Int32.ofInt (x &&& 3).toInt := (Int32.ofInt_toInt _).symm
  have : (x &&& 3).toInt = 0 ∨ (x &&& 3).toInt = 1 ∨ (x &&& 3).toInt = 2 ∨ (x &&& 3).toInt = 3 := by omega
  rcases this with q | q | q | q <;> rw [q] at e
  · exact Or.inl e
  · exact Or.inr (Or.inl e)
  · exact Or.inr (Or.inr (Or.inl e))
  · exact Or.inr (Or.inr (Or.inr e))
theorem and3_3 {x : Int32} (h0 : ¬ x &&& (3 : Int32) = 0) (h1 : ¬ x &&& (3 : Int32) = 1) (h2 : ¬ x &&& (3 : Int32) = 2) : x &&& (3 : Int32) = 3 := by
  rcases and3 x with q | q | q | q
  · exact absurd q h0
  · exact absurd q h1
  · exact absurd q h2
  · exact q

theorem hEL {Z : State} {a0 : Array Value} (hw : ∀ d ∈ tables_1, d.before a0 Z = true) : EW Z a0 consts_1 := (EW.cons (w55 hw) (by decide) EW.nil)
theorem str_atoms {Z : State} {a0 : Array Value} (hw : ∀ d ∈ tables_1, d.before a0 Z = true) : ∀ a ∈ Bundle.stringAtoms, a.before a0 Z = true := fun d hd => hw d ((by decide +kernel : ∀ d ∈ Bundle.stringAtoms, d ∈ tables_1) d hd)
def Q_rec (Z : State) (a1 : Addr) (h0 : Heap) (n0 : Nat) (vR : Option Value) (h : Heap) (L : List Loc) : Prop := vR = none ∧ Fr n0 L ∧ h = h0
theorem ef_rec (m : MethodId) (x0 : Addr) : entryFrame m #[(.ref x0)] 1 = mkF m 0 #[.val (.ref x0)] [] := by first | (simp [entryFrame, mkF, argsToLocals, Value.category]; done) | rfl
set_option maxRecDepth 65536 in
set_option maxHeartbeats 40000000 in
theorem rm_rec (l : Launch) (Z : State) (a0 : Array Value) (hw : ∀ d ∈ tables_1, d.before a0 Z = true) (ws : List Jvm.Cond) (a1 : Addr) (h0 : Heap) (n0 : Nat) (Z0 : n0 ≤ h0.size)  :
    MetFree l (⟨"java/lang/Record", "<init>", "()V"⟩ : MethodName) (head1 (Jvm.Cond.code (⟨"java/lang/Record", "<init>", "()V"⟩ : MethodName) jdk_30_method_1_code 1 none :: ws) ({ frames := 1, cells := 0, slots := 0, locals := 12 } : Room)) (fun a U => a = #[(.ref a1)] ∧ Z.Warmed39 U.vm ∧ U.heap = h0) (fun _ _ _ _ _ => True) (fun _ U o U' => ∃ v L, o = .returned v ∧ Q_rec Z a1 h0 n0 v U'.heap L ∧ FrameEnd U o U' L ({ frames := 1, cells := 0, slots := 0, locals := 12 } : Room).cells ({ frames := 1, cells := 0, slots := 0, locals := 12 } : Room).slots) := by
  refine MetFree.of_bodySF (plainFor_of_name pn_java_lang_Record) hisR ?_
  intro p e s m args below meth c s₁ Bd hml0 hP hK
  obtain ⟨rfl, hZ, hh⟩ := hP
  have hx := Bd.exec
  have hby := Bd.bytes
  have hml : c.maxLocals = 1 := hml0
  have hown : s.vm.findClass "java/lang/Record" = some m.cls := findClass_of_methodNamed Bd.named
  have hnm := (name_of_methodNamed Bd.named Bd.method).1
  have X0 : Stand p l e ({ frames := 1, cells := 0, slots := 0, locals := 12 } : Room) s m #[(.ref a1)] below meth c s₁ [] 0 0 := Stand.of_body Bd
  have e0 : s₁.heap = h0 := by rw [← hh, Bd.state]; rfl
  have N0 := Fr.nil n0
  refine go_st (fun t k => castTop (ef_rec m a1) k) ?_
  show Go _ _ _ _ (s₁.setTop (mkF m 0 #[rv a1] []))
  refine go_st (fun t k => XS.aloadN X0.here hx rfl (hb hby d0_0) rfl rfl k) ?_
  show Go _ _ _ _ (s₁.setTop (mkF m 1 #[rv a1] [(.ref a1)]))
  obtain ⟨T1, X1, e1, st1⟩ := initO X0 hx hZ hown (w45 hw) (w16 hw) (w17 hw) e0 (g := (mkF m 1 #[rv a1] [(.ref a1)])) rfl (by rw [hml]; rfl) rfl (hb hby d0_1) (by decide) (W := 0) (by show 2 * 0 + _ ≤ _; exact Nat.le_of_eq rfl) (by decide)
  refine go_st (fun t k => st1 t k) ?_
  show Go _ _ _ _ (T1.setTop (mkF m 4 #[rv a1] []))
  obtain ⟨fs, hr, hrun, hended, hW, hsame⟩ := X1.leave (v := none) (fun _ => rfl)
  refine ⟨_, _, ?_, hrun, hended, _, _, rfl, ?_, ⟨_, rfl⟩, hW, hsame.mono (by decide) (by decide)⟩
  · exact X1.returnOut hx Bd.returns (hb hby d0_4) hr
  · show Q_rec _ _ _ _ _ T1.heap _
    rw [e1]
    exact ⟨rfl, N0, rfl⟩
def Q_cred (Z : State) (a1 : Addr) (v1 : Value) (v2 : Value) (h0 : Heap) (n0 : Nat) (vR : Option Value) (h : Heap) (L : List Loc) : Prop := vR = none ∧ Fr n0 L ∧ Keep h0 h [a1] ∧ (Exa Z h a1 "com/example/credence/credence/Credentials") ∧ (Fld Z h a1 "com/example/credence/credence/Credentials" "username" "Ljava/lang/String;" v1) ∧ (Fld Z h a1 "com/example/credence/credence/Credentials" "password" "Ljava/lang/String;" v2)
theorem ef_cred (m : MethodId) (x0 : Addr) (x1 : Value) (hx1 : x1.isRef = true) (x2 : Value) (hx2 : x2.isRef = true) : entryFrame m #[(.ref x0), x1, x2] 3 = mkF m 0 #[.val (.ref x0), .val x1, .val x2] [] := by rcases ref_cases hx1 with rfl | ⟨y1, rfl⟩ <;> rcases ref_cases hx2 with rfl | ⟨y2, rfl⟩ <;> simp [entryFrame, mkF, argsToLocals, Value.category]
set_option maxRecDepth 65536 in
set_option maxHeartbeats 40000000 in
theorem rm_cred (l : Launch) (Z : State) (a0 : Array Value) (hw : ∀ d ∈ tables_1, d.before a0 Z = true) (ws : List Jvm.Cond) (a1 : Addr) (v1 : Value) (v2 : Value) (h0 : Heap) (n0 : Nat) (Z0 : n0 ≤ h0.size) (H0 : Exa Z h0 a1 "com/example/credence/credence/Credentials") (H1 : Fld Z h0 a1 "com/example/credence/credence/Credentials" "username" "Ljava/lang/String;" .null) (H2 : Fld Z h0 a1 "com/example/credence/credence/Credentials" "password" "Ljava/lang/String;" .null) (g_a1 : n0 ≤ a1) (hv1 : v1.isRef = true) (hv2 : v2.isRef = true) :
    MetFree l (⟨"com/example/credence/credence/Credentials", "<init>", "(Ljava/lang/String;Ljava/lang/String;)V"⟩ : MethodName) (head1 (Jvm.Cond.code (⟨"com/example/credence/credence/Credentials", "<init>", "(Ljava/lang/String;Ljava/lang/String;)V"⟩ : MethodName) prog_3_method_1_code 3 none :: ws) ({ frames := 2, cells := 0, slots := 0, locals := 24 } : Room)) (fun a U => a = #[(.ref a1), v1, v2] ∧ Z.Warmed39 U.vm ∧ U.heap = h0) (fun _ _ _ _ _ => True) (fun _ U o U' => ∃ v L, o = .returned v ∧ Q_cred Z a1 v1 v2 h0 n0 v U'.heap L ∧ FrameEnd U o U' L ({ frames := 2, cells := 0, slots := 0, locals := 24 } : Room).cells ({ frames := 2, cells := 0, slots := 0, locals := 24 } : Room).slots) := by
  refine MetFree.of_bodySF (plainFor_of_name pn_com_example_credence_credence_Credentials) hisR ?_
  intro p e s m args below meth c s₁ Bd hml0 hP hK
  obtain ⟨rfl, hZ, hh⟩ := hP
  have hx := Bd.exec
  have hby := Bd.bytes
  have hml : c.maxLocals = 3 := hml0
  have hown : s.vm.findClass "com/example/credence/credence/Credentials" = some m.cls := findClass_of_methodNamed Bd.named
  have hnm := (name_of_methodNamed Bd.named Bd.method).1
  have X0 : Stand p l e ({ frames := 2, cells := 0, slots := 0, locals := 24 } : Room) s m #[(.ref a1), v1, v2] below meth c s₁ [] 0 0 := Stand.of_body Bd
  have e0 : s₁.heap = h0 := by rw [← hh, Bd.state]; rfl
  have N0 := Fr.nil n0
  refine go_st (fun t k => castTop (ef_cred m a1 v1 hv1 v2 hv2) k) ?_
  show Go _ _ _ _ (s₁.setTop (mkF m 0 #[rv a1, .val v1, .val v2] []))
  refine go_st (fun t k => XS.aloadN X0.here hx rfl (hb hby d1_0) rfl rfl k) ?_
  show Go _ _ _ _ (s₁.setTop (mkF m 1 #[rv a1, .val v1, .val v2] [(.ref a1)]))
  obtain ⟨_, _, ⟨T1, L1, kk1, nn1⟩, -, X1, ⟨Lc1, hQ1, lq1, yq1, zq1⟩, st1⟩ := X0.specialBack hx (y := (⟨"java/lang/Record", "<init>", "()V"⟩ : MethodName)) rfl hown (mvT hZ (w40 hw)) (mvT hZ (w41 hw)) (mvT hZ (w44 hw)) (by decide) (backOf (W := 0) (rm_rec l Z a0 hw [] a1 h0 n0 (Nat.le_trans Z0 (Nat.le_refl _)) ) hZ (w44 hw) (w43 hw) (by decide) (by decide)) (g := (mkF m 1 #[rv a1, .val v1, .val v2] [(.ref a1)])) rfl (by rw [hml]; rfl) (Steps.refl _) (a := a1) (argsL := []) (rest := []) (lenOf pd_0 rfl) rfl (by show 2 * 0 + _ ≤ _; exact Nat.le_of_eq rfl) (hb hby d1_1) (fun _ _ => ⟨rfl, e0, (by decide : 0 + 0 ≤ _), (by decide : 0 + 0 ≤ _)⟩)
  dsimp only [Pt.U, Pt.locs, Pt.cells, Pt.slots] at X1 lq1 yq1 zq1 st1 hQ1
  subst lq1 yq1 zq1
  obtain ⟨h1, e1⟩ : ∃ z, T1.heap = z := ⟨_, rfl⟩
  rw [e1] at hQ1
  obtain ⟨rfl, N1q, he1⟩ := hQ1
  have N1 := Fr.app N0 N1q
  rw [he1] at e1
  refine go_tr st1 ?_
  show Go _ _ _ _ (T1.setTop (mkF m 4 #[rv a1, .val v1, .val v2] []))
  refine go_st (fun t k => XS.aloadN X1.here hx rfl (hb hby d1_4) rfl rfl k) ?_
  show Go _ _ _ _ (T1.setTop (mkF m 5 #[rv a1, .val v1, .val v2] [(.ref a1)]))
  refine go_st (fun t k => XS.aloadN X1.here hx rfl (hb hby d1_5) rfl hv1 k) ?_
  show Go _ _ _ _ (T1.setTop (mkF m 6 #[rv a1, .val v1, .val v2] [v1, (.ref a1)]))
  obtain ⟨T2, h2, X2, e2, W2, st2⟩ := putF X1 hx hZ hown (host := "") (Or.inl (w46 hw)) Via.refl e1 H1 H0 (Or.inr ⟨(w47 hw), rfl, hnm⟩) (w35 hw) (ty := (.object "java/lang/String")) (by decide) (ref_narrow _ hv1) (ref_fits _ hv1) (g := (mkF m 6 #[rv a1, .val v1, .val v2] [v1, (.ref a1)])) rfl rfl (hb hby d1_6)
  have N2 := Fr.snoc X2 N1 g_a1
  have f3 : Fld Z h2 a1 "com/example/credence/credence/Credentials" "username" "Ljava/lang/String;" v1 := H1.same W2
  refine go_st (fun t k => st2 t k) ?_
  show Go _ _ _ _ (T2.setTop (mkF m 9 #[rv a1, .val v1, .val v2] []))
  refine go_st (fun t k => XS.aloadN X2.here hx rfl (hb hby d1_9) rfl rfl k) ?_
  show Go _ _ _ _ (T2.setTop (mkF m 10 #[rv a1, .val v1, .val v2] [(.ref a1)]))
  refine go_st (fun t k => XS.aloadN X2.here hx rfl (hb hby d1_10) rfl hv2 k) ?_
  show Go _ _ _ _ (T2.setTop (mkF m 11 #[rv a1, .val v1, .val v2] [v2, (.ref a1)]))
  have f4 : Fld Z h2 a1 "com/example/credence/credence/Credentials" "password" "Ljava/lang/String;" .null := (H2.other W2 (Or.inr (slot_ne (Or.inr (w49 hw)) (Or.inr (w47 hw)) (by decide) (t := (.object "java/lang/String")) (t' := (.object "java/lang/String")) (by decide) (by decide))))
  have f5 : Exa Z h2 a1 "com/example/credence/credence/Credentials" := (H0.wr W2)
  obtain ⟨T6, h6, X6, e6, W6, st6⟩ := putF X2 hx hZ hown (host := "") (Or.inl (w48 hw)) Via.refl e2 f4 f5 (Or.inr ⟨(w49 hw), rfl, hnm⟩) (w35 hw) (ty := (.object "java/lang/String")) (by decide) (ref_narrow _ hv2) (ref_fits _ hv2) (g := (mkF m 11 #[rv a1, .val v1, .val v2] [v2, (.ref a1)])) rfl rfl (hb hby d1_11)
  have N6 := Fr.snoc X6 N2 g_a1
  have f7 : Fld Z h6 a1 "com/example/credence/credence/Credentials" "password" "Ljava/lang/String;" v2 := f4.same W6
  refine go_st (fun t k => st6 t k) ?_
  show Go _ _ _ _ (T6.setTop (mkF m 14 #[rv a1, .val v1, .val v2] []))
  have f8 : Exa Z h6 a1 "com/example/credence/credence/Credentials" := (f5.wr W6)
  have f9 : Fld Z h6 a1 "com/example/credence/credence/Credentials" "username" "Ljava/lang/String;" v1 := (f3.other W6 (Or.inr (slot_ne (Or.inr (w47 hw)) (Or.inr (w49 hw)) (by decide) (t := (.object "java/lang/String")) (t' := (.object "java/lang/String")) (by decide) (by decide))))
  have ke10 : Keep h0 h2 [a1] := (Keep.wr (Keep.refl h0 [a1]) W2 (Or.inl (List.mem_of_getElem? (i := 0) rfl)))
  have ke11 : Keep h0 h6 [a1] := (Keep.wr ke10 W6 (Or.inl (List.mem_of_getElem? (i := 0) rfl)))
  obtain ⟨fs, hr, hrun, hended, hW, hsame⟩ := X6.leave (v := none) (fun _ => rfl)
  refine ⟨_, _, ?_, hrun, hended, _, _, rfl, ?_, ⟨_, rfl⟩, hW, hsame.mono (by decide) (by decide)⟩
  · exact X6.returnOut hx Bd.returns (hb hby d1_14) hr
  · show Q_cred _ _ _ _ _ _ _ T6.heap _
    rw [e6]
    exact ⟨rfl, N6, ke11, f8, f9, f7⟩
def Q_complete (Z : State) (a1 : Addr) (v1 : Value) (v2 : Value) (n1 : Bool) (n2 : Bool) (h0 : Heap) (n0 : Nat) (vR : Option Value) (h : Heap) (L : List Loc) : Prop := ∃ (r : Int32), vR = some (.int r) ∧ Fr n0 L ∧ h = h0 ∧ (r = (if (n1 && n2) = true then 1 else 0))
theorem ef_complete (m : MethodId) (x0 : Addr) : entryFrame m #[(.ref x0)] 1 = mkF m 0 #[.val (.ref x0)] [] := by first | (simp [entryFrame, mkF, argsToLocals, Value.category]; done) | rfl
set_option maxRecDepth 65536 in
set_option maxHeartbeats 40000000 in
theorem rm_complete (l : Launch) (Z : State) (a0 : Array Value) (hw : ∀ d ∈ tables_1, d.before a0 Z = true) (ws : List Jvm.Cond) (a1 : Addr) (v1 : Value) (v2 : Value) (n1 : Bool) (n2 : Bool) (h0 : Heap) (n0 : Nat) (Z0 : n0 ≤ h0.size) (H0 : Fld Z h0 a1 "com/example/credence/credence/Credentials" "username" "Ljava/lang/String;" v1) (H1 : Fld Z h0 a1 "com/example/credence/credence/Credentials" "password" "Ljava/lang/String;" v2) (hv1 : v1.isRef = true) (hv2 : v2.isRef = true) (H4 : OStr Z h0 v1 n1) (H5 : OStr Z h0 v2 n2) :
    MetFree l (⟨"com/example/credence/credence/Credentials", "complete", "()Z"⟩ : MethodName) (head1 (Jvm.Cond.code (⟨"com/example/credence/credence/Credentials", "complete", "()Z"⟩ : MethodName) prog_3_method_2_code 1 (some .boolean) :: ws) ({ frames := 1, cells := 0, slots := 0, locals := 12 } : Room)) (fun a U => a = #[(.ref a1)] ∧ Z.Warmed39 U.vm ∧ U.heap = h0) (fun _ _ _ _ _ => True) (fun _ U o U' => ∃ v L, o = .returned v ∧ Q_complete Z a1 v1 v2 n1 n2 h0 n0 v U'.heap L ∧ FrameEnd U o U' L ({ frames := 1, cells := 0, slots := 0, locals := 12 } : Room).cells ({ frames := 1, cells := 0, slots := 0, locals := 12 } : Room).slots) := by
  refine MetFree.of_bodySF (plainFor_of_name pn_com_example_credence_credence_Credentials) hisR ?_
  intro p e s m args below meth c s₁ Bd hml0 hP hK
  obtain ⟨rfl, hZ, hh⟩ := hP
  have hx := Bd.exec
  have hby := Bd.bytes
  have hml : c.maxLocals = 1 := hml0
  have hown : s.vm.findClass "com/example/credence/credence/Credentials" = some m.cls := findClass_of_methodNamed Bd.named
  have hnm := (name_of_methodNamed Bd.named Bd.method).1
  have X0 : Stand p l e ({ frames := 1, cells := 0, slots := 0, locals := 12 } : Room) s m #[(.ref a1)] below meth c s₁ [] 0 0 := Stand.of_body Bd
  have e0 : s₁.heap = h0 := by rw [← hh, Bd.state]; rfl
  have N0 := Fr.nil n0
  refine go_st (fun t k => castTop (ef_complete m a1) k) ?_
  show Go _ _ _ _ (s₁.setTop (mkF m 0 #[rv a1] []))
  refine go_st (fun t k => XS.aloadN X0.here hx rfl (hb hby d2_0) rfl rfl k) ?_
  show Go _ _ _ _ (s₁.setTop (mkF m 1 #[rv a1] [(.ref a1)]))
  obtain ⟨T1, X1, e1, st1⟩ := getF X0 hx hZ hown (host := "") (Or.inl (w46 hw)) Via.refl e0 H0 (g := (mkF m 1 #[rv a1] [(.ref a1)])) rfl rfl (hb hby d2_1)
  refine go_st (fun t k => st1 t k) ?_
  show Go _ _ _ _ (T1.setTop (mkF m 4 #[rv a1] [v1]))
  rcases H4 with ⟨rfl, rfl⟩ | ⟨oa2, ot2, rfl, oF2, rfl⟩ | ⟨oa2, ot2, oc2, os2, rfl, oF2, rfl⟩
  · skip
    show Go _ _ _ _ (T1.setTop (mkF m 4 #[rv a1] [.null]))
    refine go_st (fun t k => XS.ifnullYes X1.here hx rfl (pc0 := 4) (pc' := 38) rfl (hb hby d2_4) rfl (by decide) (by decide) k) ?_
    show Go _ _ _ _ (T1.setTop (mkF m 38 #[rv a1] []))
    refine go_st (fun t k => XS.iconst X1.here hx rfl (hb hby d2_38) k) ?_
    show Go _ _ _ _ (T1.setTop (mkF m 39 #[rv a1] [(.int 0)]))
    obtain ⟨fs, hr, hrun, hended, hW, hsame⟩ := X1.leave (v := some (.int 0)) (fun h => by rw [Bd.returns] at h; cases h)
    refine ⟨_, _, ?_, hrun, hended, _, _, rfl, ?_, ⟨_, rfl⟩, hW, hsame.mono (by decide) (by decide)⟩
    · exact retN X1 hx (t := .boolean) Bd.returns (by simp) (hb hby d2_39) hr
    · show Q_complete _ _ _ _ _ _ _ _ _ T1.heap _
      rw [e1]
      exact ⟨(0 : Int32), rfl, N0, rfl, (by simp)⟩
  · skip
    show Go _ _ _ _ (T1.setTop (mkF m 4 #[rv a1] [(.ref oa2)]))
    refine go_st (fun t k => XS.ifnullNo X1.here hx rfl (hb hby d2_4) rfl k) ?_
    show Go _ _ _ _ (T1.setTop (mkF m 7 #[rv a1] []))
    refine go_st (fun t k => XS.aloadN X1.here hx rfl (hb hby d2_7) rfl rfl k) ?_
    show Go _ _ _ _ (T1.setTop (mkF m 8 #[rv a1] [(.ref a1)]))
    obtain ⟨T3, X3, e3, st3⟩ := getF X1 hx hZ hown (host := "") (Or.inl (w46 hw)) Via.refl e1 H0 (g := (mkF m 8 #[rv a1] [(.ref a1)])) rfl rfl (hb hby d2_8)
    refine go_st (fun t k => st3 t k) ?_
    show Go _ _ _ _ (T3.setTop (mkF m 11 #[rv a1] [(.ref oa2)]))
    obtain ⟨cq4, kq4, q4a, q4b, q4c⟩ := isOf hZ e3 oF2.1
    obtain ⟨_, _, ⟨T4, L4, kk4, nn4⟩, -, X4, ⟨Lc4, hQ4, lq4, yq4, zq4⟩, st4⟩ := X3.virtualBack hx (y := (⟨"java/lang/String", "isEmpty", "()Z"⟩ : MethodName)) (z := (⟨"java/lang/String", "isEmpty", "()Z"⟩ : MethodName)) hown (mvT hZ (w58 hw)) (mvT hZ (w59 hw)) (notFace_of_selects (args := #[]) (mvT hZ (w61 hw))) (mvT hZ (w61 hw)) (mvT hZ (w60 hw)) (by decide) (empS (W := 0) hZ hw (kI := 4) (w6 hw) oF2 (by decide) (by decide)) q4a q4c (g := (mkF m 11 #[rv a1] [(.ref oa2)])) rfl (by rw [hml]; rfl) (Steps.refl _) (argsL := []) (rest := []) (lenOf pd_1 rfl) rfl (by show 2 * 0 + _ ≤ _; exact Nat.le_of_eq rfl) (hb hby d2_11) (fun _ _ => ⟨rfl, e3, (by decide : 0 + 0 ≤ _), (by decide : 0 + 0 ≤ _)⟩)
    dsimp only [Pt.U, Pt.locs, Pt.cells, Pt.slots] at X4 lq4 yq4 zq4 st4 hQ4
    subst lq4 yq4 zq4
    obtain ⟨h4, e4⟩ : ∃ z, T4.heap = z := ⟨_, rfl⟩
    rw [e4] at hQ4
    obtain ⟨rfl, rfl, he4⟩ := hQ4
    have N4 := Fr.app N0 (Fr.nil n0)
    rw [he4] at e4
    refine go_tr st4 ?_
    rw [show (if ([] : List Int32).length = 0 then (1 : Int32) else 0) = 1 from if_pos rfl]
    show Go _ _ _ _ (T4.setTop (mkF m 14 #[rv a1] [(.int 1)]))
    refine go_st (fun t k => XS.ifYes X4.here hx rfl (pc0 := 14) (pc' := 38) rfl (hb hby d2_14) rfl ((if0 _ _).trans (feq ((by decide) : ¬ ((1 : Int32) = (0 : Int32)))).2) (by decide) (by decide) k) ?_
    show Go _ _ _ _ (T4.setTop (mkF m 38 #[rv a1] []))
    refine go_st (fun t k => XS.iconst X4.here hx rfl (hb hby d2_38) k) ?_
    show Go _ _ _ _ (T4.setTop (mkF m 39 #[rv a1] [(.int 0)]))
    obtain ⟨fs, hr, hrun, hended, hW, hsame⟩ := X4.leave (v := some (.int 0)) (fun h => by rw [Bd.returns] at h; cases h)
    refine ⟨_, _, ?_, hrun, hended, _, _, rfl, ?_, ⟨_, rfl⟩, hW, hsame.mono (by decide) (by decide)⟩
    · exact retN X4 hx (t := .boolean) Bd.returns (by simp) (hb hby d2_39) hr
    · show Q_complete _ _ _ _ _ _ _ _ _ T4.heap _
      rw [e4]
      exact ⟨(0 : Int32), rfl, N4, rfl, (by simp)⟩
  · skip
    show Go _ _ _ _ (T1.setTop (mkF m 4 #[rv a1] [(.ref oa2)]))
    refine go_st (fun t k => XS.ifnullNo X1.here hx rfl (hb hby d2_4) rfl k) ?_
    show Go _ _ _ _ (T1.setTop (mkF m 7 #[rv a1] []))
    refine go_st (fun t k => XS.aloadN X1.here hx rfl (hb hby d2_7) rfl rfl k) ?_
    show Go _ _ _ _ (T1.setTop (mkF m 8 #[rv a1] [(.ref a1)]))
    obtain ⟨T5, X5, e5, st5⟩ := getF X1 hx hZ hown (host := "") (Or.inl (w46 hw)) Via.refl e1 H0 (g := (mkF m 8 #[rv a1] [(.ref a1)])) rfl rfl (hb hby d2_8)
    refine go_st (fun t k => st5 t k) ?_
    show Go _ _ _ _ (T5.setTop (mkF m 11 #[rv a1] [(.ref oa2)]))
    obtain ⟨cq6, kq6, q6a, q6b, q6c⟩ := isOf hZ e5 oF2.1
    obtain ⟨_, _, ⟨T6, L6, kk6, nn6⟩, -, X6, ⟨Lc6, hQ6, lq6, yq6, zq6⟩, st6⟩ := X5.virtualBack hx (y := (⟨"java/lang/String", "isEmpty", "()Z"⟩ : MethodName)) (z := (⟨"java/lang/String", "isEmpty", "()Z"⟩ : MethodName)) hown (mvT hZ (w58 hw)) (mvT hZ (w59 hw)) (notFace_of_selects (args := #[]) (mvT hZ (w61 hw))) (mvT hZ (w61 hw)) (mvT hZ (w60 hw)) (by decide) (empS (W := 0) hZ hw (kI := 4) (w6 hw) oF2 (by decide) (by decide)) q6a q6c (g := (mkF m 11 #[rv a1] [(.ref oa2)])) rfl (by rw [hml]; rfl) (Steps.refl _) (argsL := []) (rest := []) (lenOf pd_1 rfl) rfl (by show 2 * 0 + _ ≤ _; exact Nat.le_of_eq rfl) (hb hby d2_11) (fun _ _ => ⟨rfl, e5, (by decide : 0 + 0 ≤ _), (by decide : 0 + 0 ≤ _)⟩)
    dsimp only [Pt.U, Pt.locs, Pt.cells, Pt.slots] at X6 lq6 yq6 zq6 st6 hQ6
    subst lq6 yq6 zq6
    obtain ⟨h6, e6⟩ : ∃ z, T6.heap = z := ⟨_, rfl⟩
    rw [e6] at hQ6
    obtain ⟨rfl, rfl, he6⟩ := hQ6
    have N6 := Fr.app N0 (Fr.nil n0)
    rw [he6] at e6
    refine go_tr st6 ?_
    rw [show (if ((oc2 :: os2) : List Int32).length = 0 then (1 : Int32) else 0) = 0 from if_neg (by simp)]
    show Go _ _ _ _ (T6.setTop (mkF m 14 #[rv a1] [(.int 0)]))
    refine go_st (fun t k => XS.ifNo X6.here hx rfl (hb hby d2_14) rfl ((if0 _ _).trans (teq ((by decide) : (0 : Int32) = (0 : Int32))).2) k) ?_
    show Go _ _ _ _ (T6.setTop (mkF m 17 #[rv a1] []))
    refine go_st (fun t k => XS.aloadN X6.here hx rfl (hb hby d2_17) rfl rfl k) ?_
    show Go _ _ _ _ (T6.setTop (mkF m 18 #[rv a1] [(.ref a1)]))
    obtain ⟨T7, X7, e7, st7⟩ := getF X6 hx hZ hown (host := "") (Or.inl (w48 hw)) Via.refl e6 H1 (g := (mkF m 18 #[rv a1] [(.ref a1)])) rfl rfl (hb hby d2_18)
    refine go_st (fun t k => st7 t k) ?_
    show Go _ _ _ _ (T7.setTop (mkF m 21 #[rv a1] [v2]))
    rcases H5 with ⟨rfl, rfl⟩ | ⟨oa8, ot8, rfl, oF8, rfl⟩ | ⟨oa8, ot8, oc8, os8, rfl, oF8, rfl⟩
    · skip
      show Go _ _ _ _ (T7.setTop (mkF m 21 #[rv a1] [.null]))
      refine go_st (fun t k => XS.ifnullYes X7.here hx rfl (pc0 := 21) (pc' := 38) rfl (hb hby d2_21) rfl (by decide) (by decide) k) ?_
      show Go _ _ _ _ (T7.setTop (mkF m 38 #[rv a1] []))
      refine go_st (fun t k => XS.iconst X7.here hx rfl (hb hby d2_38) k) ?_
      show Go _ _ _ _ (T7.setTop (mkF m 39 #[rv a1] [(.int 0)]))
      obtain ⟨fs, hr, hrun, hended, hW, hsame⟩ := X7.leave (v := some (.int 0)) (fun h => by rw [Bd.returns] at h; cases h)
      refine ⟨_, _, ?_, hrun, hended, _, _, rfl, ?_, ⟨_, rfl⟩, hW, hsame.mono (by decide) (by decide)⟩
      · exact retN X7 hx (t := .boolean) Bd.returns (by simp) (hb hby d2_39) hr
      · show Q_complete _ _ _ _ _ _ _ _ _ T7.heap _
        rw [e7]
        exact ⟨(0 : Int32), rfl, N6, rfl, (by simp)⟩
    · skip
      show Go _ _ _ _ (T7.setTop (mkF m 21 #[rv a1] [(.ref oa8)]))
      refine go_st (fun t k => XS.ifnullNo X7.here hx rfl (hb hby d2_21) rfl k) ?_
      show Go _ _ _ _ (T7.setTop (mkF m 24 #[rv a1] []))
      refine go_st (fun t k => XS.aloadN X7.here hx rfl (hb hby d2_24) rfl rfl k) ?_
      show Go _ _ _ _ (T7.setTop (mkF m 25 #[rv a1] [(.ref a1)]))
      obtain ⟨T9, X9, e9, st9⟩ := getF X7 hx hZ hown (host := "") (Or.inl (w48 hw)) Via.refl e7 H1 (g := (mkF m 25 #[rv a1] [(.ref a1)])) rfl rfl (hb hby d2_25)
      refine go_st (fun t k => st9 t k) ?_
      show Go _ _ _ _ (T9.setTop (mkF m 28 #[rv a1] [(.ref oa8)]))
      obtain ⟨cq10, kq10, q10a, q10b, q10c⟩ := isOf hZ e9 oF8.1
      obtain ⟨_, _, ⟨T10, L10, kk10, nn10⟩, -, X10, ⟨Lc10, hQ10, lq10, yq10, zq10⟩, st10⟩ := X9.virtualBack hx (y := (⟨"java/lang/String", "isEmpty", "()Z"⟩ : MethodName)) (z := (⟨"java/lang/String", "isEmpty", "()Z"⟩ : MethodName)) hown (mvT hZ (w58 hw)) (mvT hZ (w59 hw)) (notFace_of_selects (args := #[]) (mvT hZ (w61 hw))) (mvT hZ (w61 hw)) (mvT hZ (w60 hw)) (by decide) (empS (W := 0) hZ hw (kI := 4) (w6 hw) oF8 (by decide) (by decide)) q10a q10c (g := (mkF m 28 #[rv a1] [(.ref oa8)])) rfl (by rw [hml]; rfl) (Steps.refl _) (argsL := []) (rest := []) (lenOf pd_1 rfl) rfl (by show 2 * 0 + _ ≤ _; exact Nat.le_of_eq rfl) (hb hby d2_28) (fun _ _ => ⟨rfl, e9, (by decide : 0 + 0 ≤ _), (by decide : 0 + 0 ≤ _)⟩)
      dsimp only [Pt.U, Pt.locs, Pt.cells, Pt.slots] at X10 lq10 yq10 zq10 st10 hQ10
      subst lq10 yq10 zq10
      obtain ⟨h10, e10⟩ : ∃ z, T10.heap = z := ⟨_, rfl⟩
      rw [e10] at hQ10
      obtain ⟨rfl, rfl, he10⟩ := hQ10
      have N10 := Fr.app N6 (Fr.nil n0)
      rw [he10] at e10
      refine go_tr st10 ?_
      rw [show (if ([] : List Int32).length = 0 then (1 : Int32) else 0) = 1 from if_pos rfl]
      show Go _ _ _ _ (T10.setTop (mkF m 31 #[rv a1] [(.int 1)]))
      refine go_st (fun t k => XS.ifYes X10.here hx rfl (pc0 := 31) (pc' := 38) rfl (hb hby d2_31) rfl ((if0 _ _).trans (feq ((by decide) : ¬ ((1 : Int32) = (0 : Int32)))).2) (by decide) (by decide) k) ?_
      show Go _ _ _ _ (T10.setTop (mkF m 38 #[rv a1] []))
      refine go_st (fun t k => XS.iconst X10.here hx rfl (hb hby d2_38) k) ?_
      show Go _ _ _ _ (T10.setTop (mkF m 39 #[rv a1] [(.int 0)]))
      obtain ⟨fs, hr, hrun, hended, hW, hsame⟩ := X10.leave (v := some (.int 0)) (fun h => by rw [Bd.returns] at h; cases h)
      refine ⟨_, _, ?_, hrun, hended, _, _, rfl, ?_, ⟨_, rfl⟩, hW, hsame.mono (by decide) (by decide)⟩
      · exact retN X10 hx (t := .boolean) Bd.returns (by simp) (hb hby d2_39) hr
      · show Q_complete _ _ _ _ _ _ _ _ _ T10.heap _
        rw [e10]
        exact ⟨(0 : Int32), rfl, N10, rfl, (by simp)⟩
    · skip
      show Go _ _ _ _ (T7.setTop (mkF m 21 #[rv a1] [(.ref oa8)]))
      refine go_st (fun t k => XS.ifnullNo X7.here hx rfl (hb hby d2_21) rfl k) ?_
      show Go _ _ _ _ (T7.setTop (mkF m 24 #[rv a1] []))
      refine go_st (fun t k => XS.aloadN X7.here hx rfl (hb hby d2_24) rfl rfl k) ?_
      show Go _ _ _ _ (T7.setTop (mkF m 25 #[rv a1] [(.ref a1)]))
      obtain ⟨T11, X11, e11, st11⟩ := getF X7 hx hZ hown (host := "") (Or.inl (w48 hw)) Via.refl e7 H1 (g := (mkF m 25 #[rv a1] [(.ref a1)])) rfl rfl (hb hby d2_25)
      refine go_st (fun t k => st11 t k) ?_
      show Go _ _ _ _ (T11.setTop (mkF m 28 #[rv a1] [(.ref oa8)]))
      obtain ⟨cq12, kq12, q12a, q12b, q12c⟩ := isOf hZ e11 oF8.1
      obtain ⟨_, _, ⟨T12, L12, kk12, nn12⟩, -, X12, ⟨Lc12, hQ12, lq12, yq12, zq12⟩, st12⟩ := X11.virtualBack hx (y := (⟨"java/lang/String", "isEmpty", "()Z"⟩ : MethodName)) (z := (⟨"java/lang/String", "isEmpty", "()Z"⟩ : MethodName)) hown (mvT hZ (w58 hw)) (mvT hZ (w59 hw)) (notFace_of_selects (args := #[]) (mvT hZ (w61 hw))) (mvT hZ (w61 hw)) (mvT hZ (w60 hw)) (by decide) (empS (W := 0) hZ hw (kI := 4) (w6 hw) oF8 (by decide) (by decide)) q12a q12c (g := (mkF m 28 #[rv a1] [(.ref oa8)])) rfl (by rw [hml]; rfl) (Steps.refl _) (argsL := []) (rest := []) (lenOf pd_1 rfl) rfl (by show 2 * 0 + _ ≤ _; exact Nat.le_of_eq rfl) (hb hby d2_28) (fun _ _ => ⟨rfl, e11, (by decide : 0 + 0 ≤ _), (by decide : 0 + 0 ≤ _)⟩)
      dsimp only [Pt.U, Pt.locs, Pt.cells, Pt.slots] at X12 lq12 yq12 zq12 st12 hQ12
      subst lq12 yq12 zq12
      obtain ⟨h12, e12⟩ : ∃ z, T12.heap = z := ⟨_, rfl⟩
      rw [e12] at hQ12
      obtain ⟨rfl, rfl, he12⟩ := hQ12
      have N12 := Fr.app N6 (Fr.nil n0)
      rw [he12] at e12
      refine go_tr st12 ?_
      rw [show (if ((oc8 :: os8) : List Int32).length = 0 then (1 : Int32) else 0) = 0 from if_neg (by simp)]
      show Go _ _ _ _ (T12.setTop (mkF m 31 #[rv a1] [(.int 0)]))
      refine go_st (fun t k => XS.ifNo X12.here hx rfl (hb hby d2_31) rfl ((if0 _ _).trans (teq ((by decide) : (0 : Int32) = (0 : Int32))).2) k) ?_
      show Go _ _ _ _ (T12.setTop (mkF m 34 #[rv a1] []))
      refine go_st (fun t k => XS.iconst X12.here hx rfl (hb hby d2_34) k) ?_
      show Go _ _ _ _ (T12.setTop (mkF m 35 #[rv a1] [(.int 1)]))
      refine go_st (fun t k => XS.goto X12.here hx rfl (pc0 := 35) (pc' := 39) rfl (hb hby d2_35) (by decide) (by decide) k) ?_
      show Go _ _ _ _ (T12.setTop (mkF m 39 #[rv a1] [(.int 1)]))
      obtain ⟨fs, hr, hrun, hended, hW, hsame⟩ := X12.leave (v := some (.int 1)) (fun h => by rw [Bd.returns] at h; cases h)
      refine ⟨_, _, ?_, hrun, hended, _, _, rfl, ?_, ⟨_, rfl⟩, hW, hsame.mono (by decide) (by decide)⟩
      · exact retN X12 hx (t := .boolean) Bd.returns (by simp) (hb hby d2_39) hr
      · show Q_complete _ _ _ _ _ _ _ _ _ T12.heap _
        rw [e12]
        exact ⟨(1 : Int32), rfl, N12, rfl, (by simp)⟩
def Q_make (Z : State) (pk : Int32) (pa : Int32) (pb : Int32) (G1 : Int32) (h0 : Heap) (n0 : Nat) (vR : Option Value) (h : Heap) (L : List Loc) : Prop := ∃ (v : Value) (ne : Bool), vR = some v ∧ Fr n0 L ∧ Keep h0 h [] ∧ (v.isRef = true) ∧ (ne = decide (¬ (pk &&& (3 : Int32)) < (2 : Int32))) ∧ (OStr Z h v ne)
theorem ef_make (m : MethodId) (x0 : Int32) (x1 : Int32) (x2 : Int32) : entryFrame m #[(.int x0), (.int x1), (.int x2)] 5 = mkF m 0 #[.val (.int x0), .val (.int x1), .val (.int x2), .unset, .unset] [] := by first | (simp [entryFrame, mkF, argsToLocals, Value.category]; done) | rfl
set_option maxRecDepth 65536 in
set_option maxHeartbeats 40000000 in
theorem rm_make (l : Launch) (Z : State) (a0 : Array Value) (hw : ∀ d ∈ tables_1, d.before a0 Z = true) (ws : List Jvm.Cond) (pk : Int32) (pa : Int32) (pb : Int32) (G1 : Int32) (h0 : Heap) (n0 : Nat) (Z0 : n0 ≤ h0.size) (CS : Sta Z Z.heap "java/lang/String" "COMPACT_STRINGS" "Z" (.int G1)) (CSn : ¬ (G1 = (0 : Int32))) (O0 : Old Z n0 h0) :
    MetFree l (⟨"com/example/credence/credence/CredentialsCompletePinLaw", "make", "(III)Ljava/lang/String;"⟩ : MethodName) (head1 (Jvm.Cond.code (⟨"com/example/credence/credence/CredentialsCompletePinLaw", "make", "(III)Ljava/lang/String;"⟩ : MethodName) method_2_code 5 (some (.object "java/lang/String")) :: ws) ({ frames := 4, cells := 3, slots := 8, locals := 66 } : Room)) (fun a U => a = #[(.int pk), (.int pa), (.int pb)] ∧ Z.Warmed39 U.vm ∧ U.heap = h0 ∧ CHv Z consts_1 U.vm h0) (fun _ _ _ _ _ => True) (fun _ U o U' => ∃ v L, o = .returned v ∧ Q_make Z pk pa pb G1 h0 n0 v U'.heap L ∧ CHr Z consts_1 U.vm U.heap U'.vm U'.heap ∧ ReturnedEndW U o U' L ({ frames := 4, cells := 3, slots := 8, locals := 66 } : Room).cells ({ frames := 4, cells := 3, slots := 8, locals := 66 } : Room).slots) := by
  refine MetFree.of_bodySF (plainFor_of_name pn_com_example_credence_credence_CredentialsCompletePinLaw) hisR ?_
  intro p e s m args below meth c s₁ Bd hml0 hP hK
  obtain ⟨rfl, hZs, hh, H0⟩ := hP
  have hx := Bd.exec
  have hby := Bd.bytes
  have hml : c.maxLocals = 5 := hml0
  have hZ : Z.Warmed39 (s.setVm s.vm).vm := hZs
  have hown : (s.setVm s.vm).vm.findClass "com/example/credence/credence/CredentialsCompletePinLaw" = some m.cls := findClass_of_methodNamed Bd.named
  have hnm := (name_of_methodNamed Bd.named Bd.method).1
  have X0 : Stand p l e ({ frames := 4, cells := 3, slots := 8, locals := 66 } : Room) (s.setVm s.vm) m #[(.int pk), (.int pa), (.int pb)] below meth c s₁ [] 0 0 := Stand.of_body Bd
  have e0 : s₁.heap = h0 := by rw [← hh, Bd.state]; rfl
  have N0 := Fr.nil n0
  have hS0 : s.Since s.vm s.heap.size := (State.WarmedH.refl s).since _
  have hk0 : s.heap.size ≤ h0.size := Nat.le_of_eq (congrArg Array.size hh)
  have C0 : CHr Z consts_1 s.vm h0 s.vm h0 := CHr.refl H0
  refine go_st (fun t k => castTop (ef_make m pk pa pb) k) ?_
  show Go _ _ _ _ (s₁.setTop (mkF m 0 #[iv pk, iv pa, iv pb, .unset, .unset] []))
  refine go_st (fun t k => XS.iloadN X0.here hx rfl (hb hby d3_0) rfl k) ?_
  show Go _ _ _ _ (s₁.setTop (mkF m 1 #[iv pk, iv pa, iv pb, .unset, .unset] [(.int pk)]))
  refine go_st (fun t k => XS.iconst X0.here hx rfl (hb hby d3_1) k) ?_
  show Go _ _ _ _ (s₁.setTop (mkF m 2 #[iv pk, iv pa, iv pb, .unset, .unset] [(.int 3), (.int pk)]))
  refine go_st (fun t k => XS.iand X0.here hx rfl (hb hby d3_2) rfl k) ?_
  show Go _ _ _ _ (s₁.setTop (mkF m 3 #[iv pk, iv pa, iv pb, .unset, .unset] [(.int (pk &&& (3 : Int32)))]))
  refine go_st (fun t k => XS.istoreN X0.here hx rfl (hb hby d3_3) rfl (l' := #[iv pk, iv pa, iv pb, iv (pk &&& (3 : Int32)), .unset]) rfl k) ?_
  show Go _ _ _ _ (s₁.setTop (mkF m 4 #[iv pk, iv pa, iv pb, iv (pk &&& (3 : Int32)), .unset] []))
  refine go_st (fun t k => XS.iloadN X0.here hx rfl (hb hby d3_4) rfl k) ?_
  show Go _ _ _ _ (s₁.setTop (mkF m 5 #[iv pk, iv pa, iv pb, iv (pk &&& (3 : Int32)), .unset] [(.int (pk &&& (3 : Int32)))]))
  by_cases hc1 : (pk &&& (3 : Int32)) = (0 : Int32)
  · skip
    refine go_st (fun t k => XS.ifNo X0.here hx rfl (hb hby d3_5) rfl ((if0 _ _).trans (teq (hc1 : (pk &&& (3 : Int32)) = (0 : Int32))).2) k) ?_
    show Go _ _ _ _ (s₁.setTop (mkF m 8 #[iv pk, iv pa, iv pb, iv (pk &&& (3 : Int32)), .unset] []))
    refine go_st (fun t k => XS.aconstNull X0.here hx rfl (hb hby d3_8) k) ?_
    show Go _ _ _ _ (s₁.setTop (mkF m 9 #[iv pk, iv pa, iv pb, iv (pk &&& (3 : Int32)), .unset] [.null]))
    obtain ⟨fs, hr, hrun, hended, hR⟩ := X0.leaveW hS0 (by rw [e0]; exact (Nat.le_trans hk0 (Nat.le_refl _))) (v := some .null) (fun h => by rw [Bd.returns] at h; cases h)
    refine ⟨_, _, ?_, hrun, hended, _, _, rfl, ?_, ?_, hR.1, hR.2.1, hR.2.2.1, hR.2.2.2.mono (by decide) (by decide)⟩
    · exact retOut X0 hx Bd.returns rfl (Or.inr (Or.inr (Or.inr (Or.inr ⟨rfl, rfl, rfl⟩)))) (hb hby d3_9) hr
    · show Q_make _ _ _ _ _ _ _ _ s₁.heap _
      rw [e0]
      exact ⟨.null, false, rfl, N0, (Keep.refl h0 []), rfl, (by rw [hc1]; decide), (Or.inl ⟨rfl, rfl⟩)⟩
    · show CHr Z consts_1 s.vm s.heap s₁.vm s₁.heap
      rw [hh, e0]
      exact CHr.trans C0 (CHv.at X0 hZ (hEL hw) C0.1)
  · skip
    refine go_st (fun t k => XS.ifYes X0.here hx rfl (pc0 := 5) (pc' := 10) rfl (hb hby d3_5) rfl ((if0 _ _).trans (feq (hc1 : ¬ ((pk &&& (3 : Int32)) = (0 : Int32)))).2) (by decide) (by decide) k) ?_
    show Go _ _ _ _ (s₁.setTop (mkF m 10 #[iv pk, iv pa, iv pb, iv (pk &&& (3 : Int32)), .unset] []))
    refine go_st (fun t k => XS.iloadN X0.here hx rfl (hb hby d3_10) rfl k) ?_
    show Go _ _ _ _ (s₁.setTop (mkF m 11 #[iv pk, iv pa, iv pb, iv (pk &&& (3 : Int32)), .unset] [(.int (pk &&& (3 : Int32)))]))
    refine go_st (fun t k => XS.iconst X0.here hx rfl (hb hby d3_11) k) ?_
    show Go _ _ _ _ (s₁.setTop (mkF m 12 #[iv pk, iv pa, iv pb, iv (pk &&& (3 : Int32)), .unset] [(.int 1), (.int (pk &&& (3 : Int32)))]))
    by_cases hc2 : (pk &&& (3 : Int32)) = (1 : Int32)
    · skip
      refine go_st (fun t k => XS.icmpNo X0.here hx rfl (hb hby d3_12) rfl (teq (hc2 : (pk &&& (3 : Int32)) = (1 : Int32))).2 k) ?_
      show Go _ _ _ _ (s₁.setTop (mkF m 15 #[iv pk, iv pa, iv pb, iv (pk &&& (3 : Int32)), .unset] []))
      obtain ⟨li3, T3, h3, kk3, t3, kb3, X3, e3, E3, hS3, hk3, hZ3, hown3, Es3, Cs3, Vs3, As3, lla3, llt3, hC3, -, hne3, st3⟩ := ldcCH (vm0 := s.vm) X0 hx hZ hown (w55 hw) (str_atoms hw) e0 hS0 (Nat.le_trans hk0 (Nat.le_refl _)) (hEL hw) (List.mem_of_getElem? (i := 0) rfl) C0.1 (vs := []) (z := (0 : Int32)) (by decide) (by decide) (by decide) (g := (mkF m 15 #[iv pk, iv pa, iv pb, iv (pk &&& (3 : Int32)), .unset] [])) rfl (hb hby d3_15) (n := 0) (by decide) (by decide) (by decide) (by decide)
      have C4 : CHr Z consts_1 s.vm h0 T3.vm h3 := CHr.trans C0 hC3
      refine go_st (fun t k => st3 t k) ?_
      show Go _ _ _ _ (T3.setTop (mkF m 17 #[iv pk, iv pa, iv pb, iv (pk &&& (3 : Int32)), .unset] [(.ref li3)]))
      have sl : Str Z h3 li3 t3 [] := Str.of (n := 0) Es3 Vs3 Cs3 As3 rfl (by decide) chars_nil
      have ke5 : Keep h0 h3 [] := (Keep.ext (Keep.refl h0 []) E3)
      obtain ⟨fs, hr, hrun, hended, hR⟩ := X3.leaveW hS3 (by rw [e3]; exact (Nat.le_trans hk3 (Nat.le_refl _))) (v := some (.ref li3)) (fun h => by rw [Bd.returns] at h; cases h)
      refine ⟨_, _, ?_, hrun, hended, _, _, rfl, ?_, ?_, hR.1, hR.2.1, hR.2.2.1, hR.2.2.2.mono (by decide) (by decide)⟩
      · exact retOut X3 hx Bd.returns rfl (Or.inr (Or.inr (Or.inr (Or.inr ⟨rfl, rfl, rfl⟩)))) (hb hby d3_17) hr
      · show Q_make _ _ _ _ _ _ _ _ T3.heap _
        rw [e3]
        exact ⟨(.ref li3), false, rfl, N0, ke5, rfl, (by rw [hc2]; decide), (Or.inr (Or.inl ⟨_, _, rfl, sl, rfl⟩))⟩
      · show CHr Z consts_1 s.vm s.heap T3.vm T3.heap
        rw [hh, e3]
        exact CHr.trans C4 (CHv.at X3 hZ3 (hEL hw) C4.1)
    · skip
      refine go_st (fun t k => XS.icmpYes X0.here hx rfl (pc0 := 12) (pc' := 18) rfl (hb hby d3_12) rfl (feq (hc2 : ¬ ((pk &&& (3 : Int32)) = (1 : Int32)))).2 (by decide) (by decide) k) ?_
      show Go _ _ _ _ (s₁.setTop (mkF m 18 #[iv pk, iv pa, iv pb, iv (pk &&& (3 : Int32)), .unset] []))
      refine go_st (fun t k => XS.iloadN X0.here hx rfl (hb hby d3_18) rfl k) ?_
      show Go _ _ _ _ (s₁.setTop (mkF m 19 #[iv pk, iv pa, iv pb, iv (pk &&& (3 : Int32)), .unset] [(.int (pk &&& (3 : Int32)))]))
      refine go_st (fun t k => XS.iconst X0.here hx rfl (hb hby d3_19) k) ?_
      show Go _ _ _ _ (s₁.setTop (mkF m 20 #[iv pk, iv pa, iv pb, iv (pk &&& (3 : Int32)), .unset] [(.int 2), (.int (pk &&& (3 : Int32)))]))
      by_cases hc6 : (pk &&& (3 : Int32)) = (2 : Int32)
      · skip
        refine go_st (fun t k => XS.icmpNo X0.here hx rfl (hb hby d3_20) rfl (teq (hc6 : (pk &&& (3 : Int32)) = (2 : Int32))).2 k) ?_
        show Go _ _ _ _ (s₁.setTop (mkF m 23 #[iv pk, iv pa, iv pb, iv (pk &&& (3 : Int32)), .unset] []))
        refine go_st (fun t k => XS.iconst X0.here hx rfl (hb hby d3_23) k) ?_
        show Go _ _ _ _ (s₁.setTop (mkF m 24 #[iv pk, iv pa, iv pb, iv (pk &&& (3 : Int32)), .unset] [(.int 1)]))
        obtain ⟨T7, h7, kc7, X7, e7, E7, A7, st7⟩ := newP X0 hx hZ (aty := .char) (w4 hw) e0 (g := (mkF m 24 #[iv pk, iv pa, iv pb, iv (pk &&& (3 : Int32)), .unset] [(.int 1)])) rfl (hb hby d3_24) rfl (by decide) (cap := 1) (by decide) (by decide) (by decide) (by decide)
        obtain ⟨b7, gq7⟩ : ∃ z, z = h0.size := ⟨_, rfl⟩
        rw [← gq7] at A7 st7
        have C8 : CHr Z consts_1 s.vm h0 s.vm h7 := CHr.trans C0 (CHr.ext E7 C0.1)
        have f9 : Arv Z h7 b7 kc7 .char (1 : Int32) [(.int 0)] (.int 0) := (Arv.new A7 (by decide)).pad (pad_rep [] (.int 0) 1)
        refine go_st (fun t k => st7 t k) ?_
        show Go _ _ _ _ (T7.setTop (mkF m 26 #[iv pk, iv pa, iv pb, iv (pk &&& (3 : Int32)), .unset] [(.ref b7)]))
        refine go_st (fun t k => XS.astore X7.here hx rfl (hb hby d3_26) rfl rfl (l' := #[iv pk, iv pa, iv pb, iv (pk &&& (3 : Int32)), rv b7]) rfl k) ?_
        show Go _ _ _ _ (T7.setTop (mkF m 28 #[iv pk, iv pa, iv pb, iv (pk &&& (3 : Int32)), rv b7] []))
        refine go_st (fun t k => XS.aload X7.here hx rfl (hb hby d3_28) rfl rfl k) ?_
        show Go _ _ _ _ (T7.setTop (mkF m 30 #[iv pk, iv pa, iv pb, iv (pk &&& (3 : Int32)), rv b7] [(.ref b7)]))
        refine go_st (fun t k => XS.iconst X7.here hx rfl (hb hby d3_30) k) ?_
        show Go _ _ _ _ (T7.setTop (mkF m 31 #[iv pk, iv pa, iv pb, iv (pk &&& (3 : Int32)), rv b7] [(.int 0), (.ref b7)]))
        refine go_st (fun t k => XS.iloadN X7.here hx rfl (hb hby d3_31) rfl k) ?_
        show Go _ _ _ _ (T7.setTop (mkF m 32 #[iv pk, iv pa, iv pb, iv (pk &&& (3 : Int32)), rv b7] [(.int pa), (.int 0), (.ref b7)]))
        refine go_st (fun t k => XS.sipush X7.here hx rfl (hb hby d3_32) k) ?_
        show Go _ _ _ _ (T7.setTop (mkF m 35 #[iv pk, iv pa, iv pb, iv (pk &&& (3 : Int32)), rv b7] [(.int 255), (.int pa), (.int 0), (.ref b7)]))
        refine go_st (fun t k => XS.iand X7.here hx rfl (hb hby d3_35) rfl k) ?_
        show Go _ _ _ _ (T7.setTop (mkF m 36 #[iv pk, iv pa, iv pb, iv (pk &&& (3 : Int32)), rv b7] [(.int (pa &&& (255 : Int32))), (.int 0), (.ref b7)]))
        refine go_st (fun t k => XS.i2c X7.here hx rfl (hb hby d3_36) rfl k) ?_
        show Go _ _ _ _ (T7.setTop (mkF m 37 #[iv pk, iv pa, iv pb, iv (pk &&& (3 : Int32)), rv b7] [(.int (((pa &&& (255 : Int32))).toUInt32.toUInt16.toUInt32.toInt32)), (.int 0), (.ref b7)]))
        obtain ⟨zc10, zA10, zq10, zS10, zN10, zH10, zG10⟩ := id f9
        have hin10 : ¬ ((0 : Int32) < 0 ∨ zc10.slots.size ≤ ((0 : Int32)).toNatClampNeg) := inb_of zS10 ⟨by decide, by decide⟩
        obtain ⟨T10, h10, X10, e10, W10, st10⟩ := stC X7 hx hZ e7 zA10 (j := (0 : Int32)) hin10 (g := (mkF m 37 #[iv pk, iv pa, iv pb, iv (pk &&& (3 : Int32)), rv b7] [(.int (((pa &&& (255 : Int32))).toUInt32.toUInt16.toUInt32.toInt32)), (.int 0), (.ref b7)])) rfl rfl (hb hby d3_37)
        have g_b7 : n0 ≤ b7 := Nat.le_trans (Nat.le_trans Z0 (Nat.le_refl _)) (Nat.le_of_eq gq7.symm)
        have N10 := Fr.snoc X10 N0 g_b7
        have C11 : CHr Z consts_1 s.vm h0 s.vm h10 := CHr.trans C8 (CHr.wr W10 (Safe.arv hZ.alike f9 (by decide)) C8.1)
        have f12 : Arv Z h10 b7 kc7 .char (1 : Int32) [(.int (nar .char (((pa &&& (255 : Int32))).toUInt32.toUInt16.toUInt32.toInt32)))] (.int 0) := Arv.set zA10 zq10 zS10 zN10 zH10 zG10 (fits_nar_char _) W10 0 rfl (Nat.le_of_ble_eq_true rfl)
        refine go_st (fun t k => st10 t k) ?_
        show Go _ _ _ _ (T10.setTop (mkF m 38 #[iv pk, iv pa, iv pb, iv (pk &&& (3 : Int32)), rv b7] []))
        obtain ⟨T13, h13, X13, e13, E13, A13, D13, -, st13⟩ := newO X10 hx hZ hown (w5 hw) (w6 hw) (w7 hw) e10 (g := (mkF m 38 #[iv pk, iv pa, iv pb, iv (pk &&& (3 : Int32)), rv b7] [])) rfl (hb hby d3_38) (by decide) (by decide)
        obtain ⟨b13, gq13⟩ : ∃ z, z = h10.size := ⟨_, rfl⟩
        rw [← gq13] at A13 D13 st13
        have sn13 : Safe Z consts_1 s.vm h10 b13 := Safe.new (Nat.le_of_eq gq13.symm)
        have C14 : CHr Z consts_1 s.vm h0 s.vm h13 := CHr.trans C11 (CHr.ext E13 C11.1)
        have sf15 : Safe Z consts_1 s.vm h13 b13 := Safe.ext E13 C11.1 sn13
        have f16 : Fld Z h13 b13 "java/lang/String" "coder" "B" (.int 0) := D13 (Or.inr (w31 hw)) (ty := .byte) (by decide)
        have f17 : Fld Z h13 b13 "java/lang/String" "value" "[B" .null := D13 (Or.inr (w33 hw)) (ty := (.array .byte)) (by decide)
        refine go_st (fun t k => st13 t k) ?_
        show Go _ _ _ _ (T13.setTop (mkF m 41 #[iv pk, iv pa, iv pb, iv (pk &&& (3 : Int32)), rv b7] [(.ref b13)]))
        refine go_st (fun t k => XS.dup X13.here hx rfl (hb hby d3_41) rfl rfl k) ?_
        show Go _ _ _ _ (T13.setTop (mkF m 42 #[iv pk, iv pa, iv pb, iv (pk &&& (3 : Int32)), rv b7] [(.ref b13), (.ref b13)]))
        refine go_st (fun t k => XS.aload X13.here hx rfl (hb hby d3_42) rfl rfl k) ?_
        show Go _ _ _ _ (T13.setTop (mkF m 44 #[iv pk, iv pa, iv pb, iv (pk &&& (3 : Int32)), rv b7] [(.ref b7), (.ref b13), (.ref b13)]))
        have f18 : Arv Z h13 b7 kc7 .char (1 : Int32) [(.int (nar .char (((pa &&& (255 : Int32))).toUInt32.toUInt16.toUInt32.toInt32)))] (.int 0) := (f12.ext E13)
        have oe19 : Old Z n0 h7 := (Old.ext O0 E7)
        have oe20 : Old Z n0 h10 := (Old.wr oe19 W10 g_b7)
        have oe21 : Old Z n0 h13 := (Old.ext oe20 E13)
        have sz22 : h0.size ≤ h10.size := (Nat.le_trans E7.1 (Nat.le_of_eq W10.size.symm))
        have g_b13 : n0 ≤ b13 := Nat.le_trans (Nat.le_trans Z0 sz22) (Nat.le_of_eq gq13.symm)
        have sz23 : h0.size ≤ h13.size := (Nat.le_trans sz22 E13.1)
        obtain ⟨_, _, ⟨T24, L24, kk24, nn24⟩, -, X24, ⟨Lc24, hQ24, lq24, yq24, zq24⟩, st24⟩ := X13.specialBack hx (y := (⟨"java/lang/String", "<init>", "([C)V"⟩ : MethodName)) rfl hown (mvT hZ (w8 hw)) (mvT hZ (w9 hw)) (mvT hZ (w10 hw)) (by decide) (StrChars.Road.backV (W := 1) hZ (words_in str_words hw) (kI := 4) (w6 hw) (cs := ([(nar .char (((pa &&& (255 : Int32))).toUInt32.toUInt16.toUInt32.toInt32))] : List Int32)) (bs := ([(nar .char (((pa &&& (255 : Int32))).toUInt32.toUInt16.toUInt32.toInt32))] : List Int32).map (fun c => c.toInt8.toInt32)) (n := 1) g_b13 (Nat.le_trans Z0 sz23) A13 f17 f16 f18 (Sta.ext oe21.2 CS) CSn rfl rfl (by decide) (by decide) (chars_cons (and255_chars _) chars_nil) rfl (by decide) (by decide)) (g := (mkF m 44 #[iv pk, iv pa, iv pb, iv (pk &&& (3 : Int32)), rv b7] [(.ref b7), (.ref b13), (.ref b13)])) rfl (by rw [hml]; rfl) (Steps.refl _) (a := b13) (argsL := [(.ref b7)]) (rest := [(.ref b13)]) (lenOf pd_2 rfl) rfl (by show 2 * 0 + _ ≤ _; exact Nat.le_of_eq rfl) (hb hby d3_44) (fun _ _ => ⟨rfl, e13, (by decide : 2 + 1 ≤ _), (by decide : 5 + 1 ≤ _)⟩)
        dsimp only [Pt.U, Pt.locs, Pt.cells, Pt.slots] at X24 lq24 yq24 zq24 st24 hQ24
        subst lq24 yq24 zq24
        obtain ⟨h24, e24⟩ : ∃ z, T24.heap = z := ⟨_, rfl⟩
        rw [e24] at hQ24
        obtain ⟨rfl, N24q, K24, Es24, Cs24, t24, kb24, gt24, lt24, nt24, Vs24, As24⟩ := hQ24
        have N24 := Fr.app N10 N24q
        have C25 : CHr Z consts_1 s.vm h0 s.vm h24 := CHr.trans C14 (CHr.keep K24 (sfS sf15 sf0) C14.1)
        have sf26 : Safe Z consts_1 s.vm h24 b13 := (Safe.keep K24 (sfS sf15 sf0) C14.1 sf15)
        refine go_tr st24 ?_
        show Go _ _ _ _ (T24.setTop (mkF m 47 #[iv pk, iv pa, iv pb, iv (pk &&& (3 : Int32)), rv b7] [(.ref b13)]))
        have sS27 : Str Z h24 b13 t24 ([(nar .char (((pa &&& (255 : Int32))).toUInt32.toUInt16.toUInt32.toInt32))] : List Int32) := Str.of (n := 1) Es24 Vs24 Cs24 As24 rfl (by decide) (chars_cons (and255_chars _) chars_nil)
        have ke28 : Keep h0 h7 [] := (Keep.ext (Keep.refl h0 []) E7)
        have ke29 : Keep h0 h10 [] := (Keep.wr ke28 W10 (Or.inr (Nat.le_of_eq gq7.symm)))
        have ke30 : Keep h0 h13 [] := (Keep.ext ke29 E13)
        have ke31 : Keep h0 h24 [] := (Keep.trans ke30 K24 (allS (Or.inr (Nat.le_trans sz22 (Nat.le_of_eq gq13.symm))) all0))
        have sz32 : h0.size ≤ h24.size := (Nat.le_trans sz23 K24.1)
        obtain ⟨fs, hr, hrun, hended, hR⟩ := X24.leaveW hS0 (by rw [e24]; exact (Nat.le_trans hk0 sz32)) (v := some (.ref b13)) (fun h => by rw [Bd.returns] at h; cases h)
        refine ⟨_, _, ?_, hrun, hended, _, _, rfl, ?_, ?_, hR.1, hR.2.1, hR.2.2.1, hR.2.2.2.mono (by decide) (by decide)⟩
        · exact retOut X24 hx Bd.returns rfl (Or.inr (Or.inr (Or.inr (Or.inr ⟨rfl, rfl, rfl⟩)))) (hb hby d3_47) hr
        · show Q_make _ _ _ _ _ _ _ _ T24.heap _
          rw [e24]
          exact ⟨(.ref b13), true, rfl, N24, ke31, rfl, (by rw [hc6]; decide), (Or.inr (Or.inr ⟨_, _, _, _, rfl, sS27, rfl⟩))⟩
        · show CHr Z consts_1 s.vm s.heap T24.vm T24.heap
          rw [hh, e24]
          exact CHr.trans C25 (CHv.at X24 hZ (hEL hw) C25.1)
      · skip
        refine go_st (fun t k => XS.icmpYes X0.here hx rfl (pc0 := 20) (pc' := 48) rfl (hb hby d3_20) rfl (feq (hc6 : ¬ ((pk &&& (3 : Int32)) = (2 : Int32)))).2 (by decide) (by decide) k) ?_
        show Go _ _ _ _ (s₁.setTop (mkF m 48 #[iv pk, iv pa, iv pb, iv (pk &&& (3 : Int32)), .unset] []))
        refine go_st (fun t k => XS.iconst X0.here hx rfl (hb hby d3_48) k) ?_
        show Go _ _ _ _ (s₁.setTop (mkF m 49 #[iv pk, iv pa, iv pb, iv (pk &&& (3 : Int32)), .unset] [(.int 2)]))
        obtain ⟨T33, h33, kc33, X33, e33, E33, A33, st33⟩ := newP X0 hx hZ (aty := .char) (w4 hw) e0 (g := (mkF m 49 #[iv pk, iv pa, iv pb, iv (pk &&& (3 : Int32)), .unset] [(.int 2)])) rfl (hb hby d3_49) rfl (by decide) (cap := 2) (by decide) (by decide) (by decide) (by decide)
        obtain ⟨b33, gq33⟩ : ∃ z, z = h0.size := ⟨_, rfl⟩
        rw [← gq33] at A33 st33
        have C34 : CHr Z consts_1 s.vm h0 s.vm h33 := CHr.trans C0 (CHr.ext E33 C0.1)
        have f35 : Arv Z h33 b33 kc33 .char (2 : Int32) [(.int 0), (.int 0)] (.int 0) := (Arv.new A33 (by decide)).pad (pad_rep [] (.int 0) 2)
        refine go_st (fun t k => st33 t k) ?_
        show Go _ _ _ _ (T33.setTop (mkF m 51 #[iv pk, iv pa, iv pb, iv (pk &&& (3 : Int32)), .unset] [(.ref b33)]))
        refine go_st (fun t k => XS.astore X33.here hx rfl (hb hby d3_51) rfl rfl (l' := #[iv pk, iv pa, iv pb, iv (pk &&& (3 : Int32)), rv b33]) rfl k) ?_
        show Go _ _ _ _ (T33.setTop (mkF m 53 #[iv pk, iv pa, iv pb, iv (pk &&& (3 : Int32)), rv b33] []))
        refine go_st (fun t k => XS.aload X33.here hx rfl (hb hby d3_53) rfl rfl k) ?_
        show Go _ _ _ _ (T33.setTop (mkF m 55 #[iv pk, iv pa, iv pb, iv (pk &&& (3 : Int32)), rv b33] [(.ref b33)]))
        refine go_st (fun t k => XS.iconst X33.here hx rfl (hb hby d3_55) k) ?_
        show Go _ _ _ _ (T33.setTop (mkF m 56 #[iv pk, iv pa, iv pb, iv (pk &&& (3 : Int32)), rv b33] [(.int 0), (.ref b33)]))
        refine go_st (fun t k => XS.iloadN X33.here hx rfl (hb hby d3_56) rfl k) ?_
        show Go _ _ _ _ (T33.setTop (mkF m 57 #[iv pk, iv pa, iv pb, iv (pk &&& (3 : Int32)), rv b33] [(.int pa), (.int 0), (.ref b33)]))
        refine go_st (fun t k => XS.sipush X33.here hx rfl (hb hby d3_57) k) ?_
        show Go _ _ _ _ (T33.setTop (mkF m 60 #[iv pk, iv pa, iv pb, iv (pk &&& (3 : Int32)), rv b33] [(.int 255), (.int pa), (.int 0), (.ref b33)]))
        refine go_st (fun t k => XS.iand X33.here hx rfl (hb hby d3_60) rfl k) ?_
        show Go _ _ _ _ (T33.setTop (mkF m 61 #[iv pk, iv pa, iv pb, iv (pk &&& (3 : Int32)), rv b33] [(.int (pa &&& (255 : Int32))), (.int 0), (.ref b33)]))
        refine go_st (fun t k => XS.i2c X33.here hx rfl (hb hby d3_61) rfl k) ?_
        show Go _ _ _ _ (T33.setTop (mkF m 62 #[iv pk, iv pa, iv pb, iv (pk &&& (3 : Int32)), rv b33] [(.int (((pa &&& (255 : Int32))).toUInt32.toUInt16.toUInt32.toInt32)), (.int 0), (.ref b33)]))
        obtain ⟨zc36, zA36, zq36, zS36, zN36, zH36, zG36⟩ := id f35
        have hin36 : ¬ ((0 : Int32) < 0 ∨ zc36.slots.size ≤ ((0 : Int32)).toNatClampNeg) := inb_of zS36 ⟨by decide, by decide⟩
        obtain ⟨T36, h36, X36, e36, W36, st36⟩ := stC X33 hx hZ e33 zA36 (j := (0 : Int32)) hin36 (g := (mkF m 62 #[iv pk, iv pa, iv pb, iv (pk &&& (3 : Int32)), rv b33] [(.int (((pa &&& (255 : Int32))).toUInt32.toUInt16.toUInt32.toInt32)), (.int 0), (.ref b33)])) rfl rfl (hb hby d3_62)
        have g_b33 : n0 ≤ b33 := Nat.le_trans (Nat.le_trans Z0 (Nat.le_refl _)) (Nat.le_of_eq gq33.symm)
        have N36 := Fr.snoc X36 N0 g_b33
        have C37 : CHr Z consts_1 s.vm h0 s.vm h36 := CHr.trans C34 (CHr.wr W36 (Safe.arv hZ.alike f35 (by decide)) C34.1)
        have f38 : Arv Z h36 b33 kc33 .char (2 : Int32) [(.int (nar .char (((pa &&& (255 : Int32))).toUInt32.toUInt16.toUInt32.toInt32))), (.int 0)] (.int 0) := Arv.set zA36 zq36 zS36 zN36 zH36 zG36 (fits_nar_char _) W36 0 rfl (Nat.le_of_ble_eq_true rfl)
        refine go_st (fun t k => st36 t k) ?_
        show Go _ _ _ _ (T36.setTop (mkF m 63 #[iv pk, iv pa, iv pb, iv (pk &&& (3 : Int32)), rv b33] []))
        refine go_st (fun t k => XS.aload X36.here hx rfl (hb hby d3_63) rfl rfl k) ?_
        show Go _ _ _ _ (T36.setTop (mkF m 65 #[iv pk, iv pa, iv pb, iv (pk &&& (3 : Int32)), rv b33] [(.ref b33)]))
        refine go_st (fun t k => XS.iconst X36.here hx rfl (hb hby d3_65) k) ?_
        show Go _ _ _ _ (T36.setTop (mkF m 66 #[iv pk, iv pa, iv pb, iv (pk &&& (3 : Int32)), rv b33] [(.int 1), (.ref b33)]))
        refine go_st (fun t k => XS.iloadN X36.here hx rfl (hb hby d3_66) rfl k) ?_
        show Go _ _ _ _ (T36.setTop (mkF m 67 #[iv pk, iv pa, iv pb, iv (pk &&& (3 : Int32)), rv b33] [(.int pb), (.int 1), (.ref b33)]))
        refine go_st (fun t k => XS.sipush X36.here hx rfl (hb hby d3_67) k) ?_
        show Go _ _ _ _ (T36.setTop (mkF m 70 #[iv pk, iv pa, iv pb, iv (pk &&& (3 : Int32)), rv b33] [(.int 255), (.int pb), (.int 1), (.ref b33)]))
        refine go_st (fun t k => XS.iand X36.here hx rfl (hb hby d3_70) rfl k) ?_
        show Go _ _ _ _ (T36.setTop (mkF m 71 #[iv pk, iv pa, iv pb, iv (pk &&& (3 : Int32)), rv b33] [(.int (pb &&& (255 : Int32))), (.int 1), (.ref b33)]))
        refine go_st (fun t k => XS.i2c X36.here hx rfl (hb hby d3_71) rfl k) ?_
        show Go _ _ _ _ (T36.setTop (mkF m 72 #[iv pk, iv pa, iv pb, iv (pk &&& (3 : Int32)), rv b33] [(.int (((pb &&& (255 : Int32))).toUInt32.toUInt16.toUInt32.toInt32)), (.int 1), (.ref b33)]))
        obtain ⟨zc39, zA39, zq39, zS39, zN39, zH39, zG39⟩ := id f38
        have hin39 : ¬ ((1 : Int32) < 0 ∨ zc39.slots.size ≤ ((1 : Int32)).toNatClampNeg) := inb_of zS39 ⟨by decide, by decide⟩
        obtain ⟨T39, h39, X39, e39, W39, st39⟩ := stC X36 hx hZ e36 zA39 (j := (1 : Int32)) hin39 (g := (mkF m 72 #[iv pk, iv pa, iv pb, iv (pk &&& (3 : Int32)), rv b33] [(.int (((pb &&& (255 : Int32))).toUInt32.toUInt16.toUInt32.toInt32)), (.int 1), (.ref b33)])) rfl rfl (hb hby d3_72)
        have N39 := Fr.snoc X39 N36 g_b33
        have C40 : CHr Z consts_1 s.vm h0 s.vm h39 := CHr.trans C37 (CHr.wr W39 (Safe.arv hZ.alike f38 (by decide)) C37.1)
        have f41 : Arv Z h39 b33 kc33 .char (2 : Int32) [(.int (nar .char (((pa &&& (255 : Int32))).toUInt32.toUInt16.toUInt32.toInt32))), (.int (nar .char (((pb &&& (255 : Int32))).toUInt32.toUInt16.toUInt32.toInt32)))] (.int 0) := Arv.set zA39 zq39 zS39 zN39 zH39 zG39 (fits_nar_char _) W39 1 rfl (Nat.le_of_ble_eq_true rfl)
        refine go_st (fun t k => st39 t k) ?_
        show Go _ _ _ _ (T39.setTop (mkF m 73 #[iv pk, iv pa, iv pb, iv (pk &&& (3 : Int32)), rv b33] []))
        obtain ⟨T42, h42, X42, e42, E42, A42, D42, -, st42⟩ := newO X39 hx hZ hown (w5 hw) (w6 hw) (w7 hw) e39 (g := (mkF m 73 #[iv pk, iv pa, iv pb, iv (pk &&& (3 : Int32)), rv b33] [])) rfl (hb hby d3_73) (by decide) (by decide)
        obtain ⟨b42, gq42⟩ : ∃ z, z = h39.size := ⟨_, rfl⟩
        rw [← gq42] at A42 D42 st42
        have sn42 : Safe Z consts_1 s.vm h39 b42 := Safe.new (Nat.le_of_eq gq42.symm)
        have C43 : CHr Z consts_1 s.vm h0 s.vm h42 := CHr.trans C40 (CHr.ext E42 C40.1)
        have sf44 : Safe Z consts_1 s.vm h42 b42 := Safe.ext E42 C40.1 sn42
        have f45 : Fld Z h42 b42 "java/lang/String" "coder" "B" (.int 0) := D42 (Or.inr (w31 hw)) (ty := .byte) (by decide)
        have f46 : Fld Z h42 b42 "java/lang/String" "value" "[B" .null := D42 (Or.inr (w33 hw)) (ty := (.array .byte)) (by decide)
        refine go_st (fun t k => st42 t k) ?_
        show Go _ _ _ _ (T42.setTop (mkF m 76 #[iv pk, iv pa, iv pb, iv (pk &&& (3 : Int32)), rv b33] [(.ref b42)]))
        refine go_st (fun t k => XS.dup X42.here hx rfl (hb hby d3_76) rfl rfl k) ?_
        show Go _ _ _ _ (T42.setTop (mkF m 77 #[iv pk, iv pa, iv pb, iv (pk &&& (3 : Int32)), rv b33] [(.ref b42), (.ref b42)]))
        refine go_st (fun t k => XS.aload X42.here hx rfl (hb hby d3_77) rfl rfl k) ?_
        show Go _ _ _ _ (T42.setTop (mkF m 79 #[iv pk, iv pa, iv pb, iv (pk &&& (3 : Int32)), rv b33] [(.ref b33), (.ref b42), (.ref b42)]))
        have f47 : Arv Z h42 b33 kc33 .char (2 : Int32) [(.int (nar .char (((pa &&& (255 : Int32))).toUInt32.toUInt16.toUInt32.toInt32))), (.int (nar .char (((pb &&& (255 : Int32))).toUInt32.toUInt16.toUInt32.toInt32)))] (.int 0) := (f41.ext E42)
        have oe48 : Old Z n0 h33 := (Old.ext O0 E33)
        have oe49 : Old Z n0 h36 := (Old.wr oe48 W36 g_b33)
        have oe50 : Old Z n0 h39 := (Old.wr oe49 W39 g_b33)
        have oe51 : Old Z n0 h42 := (Old.ext oe50 E42)
        have sz52 : h0.size ≤ h36.size := (Nat.le_trans E33.1 (Nat.le_of_eq W36.size.symm))
        have sz53 : h0.size ≤ h39.size := (Nat.le_trans sz52 (Nat.le_of_eq W39.size.symm))
        have g_b42 : n0 ≤ b42 := Nat.le_trans (Nat.le_trans Z0 sz53) (Nat.le_of_eq gq42.symm)
        have sz54 : h0.size ≤ h42.size := (Nat.le_trans sz53 E42.1)
        obtain ⟨_, _, ⟨T55, L55, kk55, nn55⟩, -, X55, ⟨Lc55, hQ55, lq55, yq55, zq55⟩, st55⟩ := X42.specialBack hx (y := (⟨"java/lang/String", "<init>", "([C)V"⟩ : MethodName)) rfl hown (mvT hZ (w8 hw)) (mvT hZ (w9 hw)) (mvT hZ (w10 hw)) (by decide) (StrChars.Road.backV (W := 1) hZ (words_in str_words hw) (kI := 4) (w6 hw) (cs := ([(nar .char (((pa &&& (255 : Int32))).toUInt32.toUInt16.toUInt32.toInt32)), (nar .char (((pb &&& (255 : Int32))).toUInt32.toUInt16.toUInt32.toInt32))] : List Int32)) (bs := ([(nar .char (((pa &&& (255 : Int32))).toUInt32.toUInt16.toUInt32.toInt32)), (nar .char (((pb &&& (255 : Int32))).toUInt32.toUInt16.toUInt32.toInt32))] : List Int32).map (fun c => c.toInt8.toInt32)) (n := 2) g_b42 (Nat.le_trans Z0 sz54) A42 f46 f45 f47 (Sta.ext oe51.2 CS) CSn rfl rfl (by decide) (by decide) (chars_cons (and255_chars _) (chars_cons (and255_chars _) chars_nil)) rfl (by decide) (by decide)) (g := (mkF m 79 #[iv pk, iv pa, iv pb, iv (pk &&& (3 : Int32)), rv b33] [(.ref b33), (.ref b42), (.ref b42)])) rfl (by rw [hml]; rfl) (Steps.refl _) (a := b42) (argsL := [(.ref b33)]) (rest := [(.ref b42)]) (lenOf pd_2 rfl) rfl (by show 2 * 0 + _ ≤ _; exact Nat.le_of_eq rfl) (hb hby d3_79) (fun _ _ => ⟨rfl, e42, (by decide : 2 + 1 ≤ _), (by decide : 6 + 2 ≤ _)⟩)
        dsimp only [Pt.U, Pt.locs, Pt.cells, Pt.slots] at X55 lq55 yq55 zq55 st55 hQ55
        subst lq55 yq55 zq55
        obtain ⟨h55, e55⟩ : ∃ z, T55.heap = z := ⟨_, rfl⟩
        rw [e55] at hQ55
        obtain ⟨rfl, N55q, K55, Es55, Cs55, t55, kb55, gt55, lt55, nt55, Vs55, As55⟩ := hQ55
        have N55 := Fr.app N39 N55q
        have C56 : CHr Z consts_1 s.vm h0 s.vm h55 := CHr.trans C43 (CHr.keep K55 (sfS sf44 sf0) C43.1)
        have sf57 : Safe Z consts_1 s.vm h55 b42 := (Safe.keep K55 (sfS sf44 sf0) C43.1 sf44)
        refine go_tr st55 ?_
        show Go _ _ _ _ (T55.setTop (mkF m 82 #[iv pk, iv pa, iv pb, iv (pk &&& (3 : Int32)), rv b33] [(.ref b42)]))
        have sS58 : Str Z h55 b42 t55 ([(nar .char (((pa &&& (255 : Int32))).toUInt32.toUInt16.toUInt32.toInt32)), (nar .char (((pb &&& (255 : Int32))).toUInt32.toUInt16.toUInt32.toInt32))] : List Int32) := Str.of (n := 2) Es55 Vs55 Cs55 As55 rfl (by decide) (chars_cons (and255_chars _) (chars_cons (and255_chars _) chars_nil))
        have ke59 : Keep h0 h33 [] := (Keep.ext (Keep.refl h0 []) E33)
        have ke60 : Keep h0 h36 [] := (Keep.wr ke59 W36 (Or.inr (Nat.le_of_eq gq33.symm)))
        have ke61 : Keep h0 h39 [] := (Keep.wr ke60 W39 (Or.inr (Nat.le_of_eq gq33.symm)))
        have ke62 : Keep h0 h42 [] := (Keep.ext ke61 E42)
        have ke63 : Keep h0 h55 [] := (Keep.trans ke62 K55 (allS (Or.inr (Nat.le_trans sz53 (Nat.le_of_eq gq42.symm))) all0))
        have sz64 : h0.size ≤ h55.size := (Nat.le_trans sz54 K55.1)
        obtain ⟨fs, hr, hrun, hended, hR⟩ := X55.leaveW hS0 (by rw [e55]; exact (Nat.le_trans hk0 sz64)) (v := some (.ref b42)) (fun h => by rw [Bd.returns] at h; cases h)
        refine ⟨_, _, ?_, hrun, hended, _, _, rfl, ?_, ?_, hR.1, hR.2.1, hR.2.2.1, hR.2.2.2.mono (by decide) (by decide)⟩
        · exact retOut X55 hx Bd.returns rfl (Or.inr (Or.inr (Or.inr (Or.inr ⟨rfl, rfl, rfl⟩)))) (hb hby d3_82) hr
        · show Q_make _ _ _ _ _ _ _ _ T55.heap _
          rw [e55]
          exact ⟨(.ref b42), true, rfl, N55, ke63, rfl, (by rw [and3_3 hc1 hc2 hc6]; decide), (Or.inr (Or.inr ⟨_, _, _, _, rfl, sS58, rfl⟩))⟩
        · show CHr Z consts_1 s.vm s.heap T55.vm T55.heap
          rw [hh, e55]
          exact CHr.trans C56 (CHv.at X55 hZ (hEL hw) C56.1)
def Q_law (Z : State) (p0 : Int32) (p1 : Int32) (p2 : Int32) (p3 : Int32) (p4 : Int32) (p5 : Int32) (G1 : Int32) (h0 : Heap) (n0 : Nat) (vR : Option Value) (h : Heap) (L : List Loc) : Prop := vR = some (.int 1) ∧ Fr n0 L ∧ Keep h0 h []
theorem ef_law (m : MethodId) (x0 : Int32) (x1 : Int32) (x2 : Int32) (x3 : Int32) (x4 : Int32) (x5 : Int32) : entryFrame m #[(.int x0), (.int x1), (.int x2), (.int x3), (.int x4), (.int x5)] maxLocals = mkF m 0 #[.val (.int x0), .val (.int x1), .val (.int x2), .val (.int x3), .val (.int x4), .val (.int x5), .unset, .unset, .unset, .unset] [] := by first | (simp [entryFrame, mkF, argsToLocals, Value.category, maxLocals]; done) | rfl
set_option maxRecDepth 65536 in
set_option maxHeartbeats 40000000 in
theorem rm_law (l : Launch) (Z : State) (a0 : Array Value) (hw : ∀ d ∈ tables_1, d.before a0 Z = true) (ws : List Jvm.Cond) (p0 : Int32) (p1 : Int32) (p2 : Int32) (p3 : Int32) (p4 : Int32) (p5 : Int32) (G1 : Int32) (h0 : Heap) (n0 : Nat) (Z0 : n0 ≤ h0.size) (CS : Sta Z Z.heap "java/lang/String" "COMPACT_STRINGS" "Z" (.int G1)) (CSn : ¬ (G1 = (0 : Int32))) (O0 : Old Z n0 h0) :
    MetFree l x (head1 (Jvm.Cond.code x code maxLocals ret :: ws) room_1) (fun a U => a = #[(.int p0), (.int p1), (.int p2), (.int p3), (.int p4), (.int p5)] ∧ Z.Warmed39 U.vm ∧ U.heap = h0 ∧ CHv Z consts_1 U.vm h0) (fun _ _ _ _ _ => True) (fun _ U o U' => ∃ v L, o = .returned v ∧ Q_law Z p0 p1 p2 p3 p4 p5 G1 h0 n0 v U'.heap L ∧ CHr Z consts_1 U.vm U.heap U'.vm U'.heap ∧ ReturnedEndW U o U' L room_1.cells room_1.slots) := by
  refine MetFree.of_bodySF (plainFor_of_name pn_com_example_credence_credence_CredentialsCompletePinLaw) hisR ?_
  intro p e s m args below meth c s₁ Bd hml0 hP hK
  obtain ⟨rfl, hZs, hh, H0⟩ := hP
  have hx := Bd.exec
  have hby := Bd.bytes
  have hml : c.maxLocals = 10 := hml0
  have hZ : Z.Warmed39 (s.setVm s.vm).vm := hZs
  have hown : (s.setVm s.vm).vm.findClass "com/example/credence/credence/CredentialsCompletePinLaw" = some m.cls := findClass_of_methodNamed Bd.named
  have hnm := (name_of_methodNamed Bd.named Bd.method).1
  have X0 : Stand p l e room_1 (s.setVm s.vm) m #[(.int p0), (.int p1), (.int p2), (.int p3), (.int p4), (.int p5)] below meth c s₁ [] 0 0 := Stand.of_body Bd
  have e0 : s₁.heap = h0 := by rw [← hh, Bd.state]; rfl
  have N0 := Fr.nil n0
  have hS0 : s.Since s.vm s.heap.size := (State.WarmedH.refl s).since _
  have hk0 : s.heap.size ≤ h0.size := Nat.le_of_eq (congrArg Array.size hh)
  have C0 : CHr Z consts_1 s.vm h0 s.vm h0 := CHr.refl H0
  refine go_st (fun t k => castTop (ef_law m p0 p1 p2 p3 p4 p5) k) ?_
  show Go _ _ _ _ (s₁.setTop (mkF m 0 #[iv p0, iv p1, iv p2, iv p3, iv p4, iv p5, .unset, .unset, .unset, .unset] []))
  refine go_st (fun t k => XS.iloadN X0.here hx rfl (hb hby at_0) rfl k) ?_
  show Go _ _ _ _ (s₁.setTop (mkF m 1 #[iv p0, iv p1, iv p2, iv p3, iv p4, iv p5, .unset, .unset, .unset, .unset] [(.int p0)]))
  refine go_st (fun t k => XS.iloadN X0.here hx rfl (hb hby at_1) rfl k) ?_
  show Go _ _ _ _ (s₁.setTop (mkF m 2 #[iv p0, iv p1, iv p2, iv p3, iv p4, iv p5, .unset, .unset, .unset, .unset] [(.int p2), (.int p0)]))
  refine go_st (fun t k => XS.iloadN X0.here hx rfl (hb hby at_2) rfl k) ?_
  show Go _ _ _ _ (s₁.setTop (mkF m 3 #[iv p0, iv p1, iv p2, iv p3, iv p4, iv p5, .unset, .unset, .unset, .unset] [(.int p3), (.int p2), (.int p0)]))
  obtain ⟨_, _, ⟨T1, L1, kk1, nn1⟩, -, X1, hs21, hg1, ⟨Lc1, hQ1, lq1, yq1, zq1, hC1⟩, st1⟩ := callSS X0 hx (y := (⟨"com/example/credence/credence/CredentialsCompletePinLaw", "make", "(III)Ljava/lang/String;"⟩ : MethodName)) hown (mvT hZ (w0 hw)) (mvT hZ (w1 hw)) (mvT hZ (w2 hw)) (mvT hZ (w3 hw)) (by decide) (backOfSH (vm0 := s.vm) (W := 0) (rm_make l Z a0 hw [] p0 p2 p3 G1 h0 n0 (Nat.le_trans Z0 (Nat.le_refl _)) CS CSn O0) hZ (w3 hw) (w2 hw) (by decide) (by decide) (hEL hw) C0.1) (g := (mkF m 3 #[iv p0, iv p1, iv p2, iv p3, iv p4, iv p5, .unset, .unset, .unset, .unset] [(.int p3), (.int p2), (.int p0)])) rfl (by rw [hml]; rfl) (argsL := [(.int p0), (.int p2), (.int p3)]) (rest := []) (lenOf pd_3 rfl) rfl (by show 2 * 0 + _ ≤ _; exact Nat.le_of_eq rfl) (hb hby at_3) (fun _ _ => ⟨rfl, e0, (by decide : 0 + 3 ≤ _), (by decide : 0 + 8 ≤ _)⟩)
  dsimp only [Pt.U, Pt.locs, Pt.cells, Pt.slots] at X1 hs21 hg1 lq1 yq1 zq1 st1 hQ1 hC1
  subst lq1 yq1 zq1
  rw [e0] at hg1
  obtain ⟨X1, hS1, hZ1, hown1⟩ := rebS (vm0 := s.vm) hS0 (Nat.le_trans hk0 (Nat.le_refl _)) X1 hs21 hg1 hZ hown
  obtain ⟨h1, e1⟩ : ∃ z, T1.heap = z := ⟨_, rfl⟩
  rw [e1] at hQ1 hg1 hC1 hS1
  obtain ⟨v_1, ne_1, rfl, N1q, K1, hv_1, hne_1, p1_2⟩ := hQ1
  have N1 := Fr.app N0 N1q
  have C2 : CHr Z consts_1 s.vm h0 T1.vm h1 := CHr.trans C0 hC1
  refine go_tr st1 ?_
  show Go _ _ _ _ (T1.setTop (mkF m 6 #[iv p0, iv p1, iv p2, iv p3, iv p4, iv p5, .unset, .unset, .unset, .unset] [v_1]))
  refine go_st (fun t k => XS.astore X1.here hx rfl (hb hby at_6) rfl hv_1 (l' := #[iv p0, iv p1, iv p2, iv p3, iv p4, iv p5, .val v_1, .unset, .unset, .unset]) (XS.store1 rfl (Or.inl rfl) (ref_cat hv_1)) k) ?_
  show Go _ _ _ _ (T1.setTop (mkF m 8 #[iv p0, iv p1, iv p2, iv p3, iv p4, iv p5, .val v_1, .unset, .unset, .unset] []))
  refine go_st (fun t k => XS.iloadN X1.here hx rfl (hb hby at_8) rfl k) ?_
  show Go _ _ _ _ (T1.setTop (mkF m 9 #[iv p0, iv p1, iv p2, iv p3, iv p4, iv p5, .val v_1, .unset, .unset, .unset] [(.int p1)]))
  refine go_st (fun t k => XS.iload X1.here hx rfl (hb hby at_9) rfl k) ?_
  show Go _ _ _ _ (T1.setTop (mkF m 11 #[iv p0, iv p1, iv p2, iv p3, iv p4, iv p5, .val v_1, .unset, .unset, .unset] [(.int p4), (.int p1)]))
  refine go_st (fun t k => XS.iload X1.here hx rfl (hb hby at_11) rfl k) ?_
  show Go _ _ _ _ (T1.setTop (mkF m 13 #[iv p0, iv p1, iv p2, iv p3, iv p4, iv p5, .val v_1, .unset, .unset, .unset] [(.int p5), (.int p4), (.int p1)]))
  have oe3 : Old Z n0 h1 := (Old.keep O0 K1 all0)
  obtain ⟨_, _, ⟨T4, L4, kk4, nn4⟩, -, X4, hs24, hg4, ⟨Lc4, hQ4, lq4, yq4, zq4, hC4⟩, st4⟩ := callSS X1 hx (y := (⟨"com/example/credence/credence/CredentialsCompletePinLaw", "make", "(III)Ljava/lang/String;"⟩ : MethodName)) hown1 (mvT hZ1 (w0 hw)) (mvT hZ1 (w1 hw)) (mvT hZ1 (w2 hw)) (mvT hZ1 (w3 hw)) (by decide) (backOfSH (vm0 := T1.vm) (W := 0) (rm_make l Z a0 hw [] p1 p4 p5 G1 h1 n0 (Nat.le_trans Z0 K1.1) CS CSn oe3) hZ1 (w3 hw) (w2 hw) (by decide) (by decide) (hEL hw) C2.1) (g := (mkF m 13 #[iv p0, iv p1, iv p2, iv p3, iv p4, iv p5, .val v_1, .unset, .unset, .unset] [(.int p5), (.int p4), (.int p1)])) rfl (by rw [hml]; rfl) (argsL := [(.int p1), (.int p4), (.int p5)]) (rest := []) (lenOf pd_3 rfl) rfl (by show 2 * 0 + _ ≤ _; exact Nat.le_of_eq rfl) (hb hby at_13) (fun _ _ => ⟨rfl, e1, (by decide : 3 + 3 ≤ _), (by decide : 8 + 8 ≤ _)⟩)
  dsimp only [Pt.U, Pt.locs, Pt.cells, Pt.slots] at X4 hs24 hg4 lq4 yq4 zq4 st4 hQ4 hC4
  subst lq4 yq4 zq4
  rw [e1] at hg4
  obtain ⟨X4, hS4, hZ4, hown4⟩ := rebS (vm0 := T1.vm) hS1 (Nat.le_trans (Nat.le_refl _) (Nat.le_refl _)) X4 hs24 hg4 hZ1 hown1
  obtain ⟨h4, e4⟩ : ∃ z, T4.heap = z := ⟨_, rfl⟩
  rw [e4] at hQ4 hg4 hC4 hS4
  obtain ⟨v_4, ne_4, rfl, N4q, K4, hv_4, hne_4, p4_2⟩ := hQ4
  have N4 := Fr.app N1 N4q
  have C5 : CHr Z consts_1 s.vm h0 T4.vm h4 := CHr.trans C2 hC4
  refine go_tr st4 ?_
  show Go _ _ _ _ (T4.setTop (mkF m 16 #[iv p0, iv p1, iv p2, iv p3, iv p4, iv p5, .val v_1, .unset, .unset, .unset] [v_4]))
  refine go_st (fun t k => XS.astore X4.here hx rfl (hb hby at_16) rfl hv_4 (l' := #[iv p0, iv p1, iv p2, iv p3, iv p4, iv p5, .val v_1, .val v_4, .unset, .unset]) (XS.store1 rfl (Or.inl rfl) (ref_cat hv_4)) k) ?_
  show Go _ _ _ _ (T4.setTop (mkF m 18 #[iv p0, iv p1, iv p2, iv p3, iv p4, iv p5, .val v_1, .val v_4, .unset, .unset] []))
  refine go_st (fun t k => XS.iloadN X4.here hx rfl (hb hby at_18) rfl k) ?_
  show Go _ _ _ _ (T4.setTop (mkF m 19 #[iv p0, iv p1, iv p2, iv p3, iv p4, iv p5, .val v_1, .val v_4, .unset, .unset] [(.int p0)]))
  refine go_st (fun t k => XS.iconst X4.here hx rfl (hb hby at_19) k) ?_
  show Go _ _ _ _ (T4.setTop (mkF m 20 #[iv p0, iv p1, iv p2, iv p3, iv p4, iv p5, .val v_1, .val v_4, .unset, .unset] [(.int 3), (.int p0)]))
  refine go_st (fun t k => XS.iand X4.here hx rfl (hb hby at_20) rfl k) ?_
  show Go _ _ _ _ (T4.setTop (mkF m 21 #[iv p0, iv p1, iv p2, iv p3, iv p4, iv p5, .val v_1, .val v_4, .unset, .unset] [(.int (p0 &&& (3 : Int32)))]))
  refine go_st (fun t k => XS.iconst X4.here hx rfl (hb hby at_21) k) ?_
  show Go _ _ _ _ (T4.setTop (mkF m 22 #[iv p0, iv p1, iv p2, iv p3, iv p4, iv p5, .val v_1, .val v_4, .unset, .unset] [(.int 2), (.int (p0 &&& (3 : Int32)))]))
  by_cases hc6 : (p0 &&& (3 : Int32)) < (2 : Int32)
  · skip
    refine go_st (fun t k => XS.icmpYes X4.here hx rfl (pc0 := 22) (pc' := 36) rfl (hb hby at_22) rfl (tlt (hc6 : (p0 &&& (3 : Int32)) < (2 : Int32))).1 (by decide) (by decide) k) ?_
    show Go _ _ _ _ (T4.setTop (mkF m 36 #[iv p0, iv p1, iv p2, iv p3, iv p4, iv p5, .val v_1, .val v_4, .unset, .unset] []))
    refine go_st (fun t k => XS.iconst X4.here hx rfl (hb hby at_36) k) ?_
    show Go _ _ _ _ (T4.setTop (mkF m 37 #[iv p0, iv p1, iv p2, iv p3, iv p4, iv p5, .val v_1, .val v_4, .unset, .unset] [(.int 0)]))
    refine go_st (fun t k => XS.istore X4.here hx rfl (hb hby at_37) rfl (l' := #[iv p0, iv p1, iv p2, iv p3, iv p4, iv p5, .val v_1, .val v_4, iv 0, .unset]) rfl k) ?_
    show Go _ _ _ _ (T4.setTop (mkF m 39 #[iv p0, iv p1, iv p2, iv p3, iv p4, iv p5, .val v_1, .val v_4, iv 0, .unset] []))
    obtain ⟨T7, h7, X7, e7, E7, A7, D7, -, st7⟩ := newO X4 hx hZ4 hown4 (w34 hw) (w35 hw) (w36 hw) e4 (g := (mkF m 39 #[iv p0, iv p1, iv p2, iv p3, iv p4, iv p5, .val v_1, .val v_4, iv 0, .unset] [])) rfl (hb hby at_39) (by decide) (by decide)
    obtain ⟨b7, gq7⟩ : ∃ z, z = h4.size := ⟨_, rfl⟩
    rw [← gq7] at A7 D7 st7
    have C8 : CHr Z consts_1 s.vm h0 T4.vm h7 := CHr.trans C5 (CHr.ext E7 C5.1)
    have f9 : Fld Z h7 b7 "com/example/credence/credence/Credentials" "username" "Ljava/lang/String;" .null := D7 (Or.inr (w47 hw)) (ty := (.object "java/lang/String")) (by decide)
    have f10 : Fld Z h7 b7 "com/example/credence/credence/Credentials" "password" "Ljava/lang/String;" .null := D7 (Or.inr (w49 hw)) (ty := (.object "java/lang/String")) (by decide)
    refine go_st (fun t k => st7 t k) ?_
    show Go _ _ _ _ (T7.setTop (mkF m 42 #[iv p0, iv p1, iv p2, iv p3, iv p4, iv p5, .val v_1, .val v_4, iv 0, .unset] [(.ref b7)]))
    refine go_st (fun t k => XS.dup X7.here hx rfl (hb hby at_42) rfl rfl k) ?_
    show Go _ _ _ _ (T7.setTop (mkF m 43 #[iv p0, iv p1, iv p2, iv p3, iv p4, iv p5, .val v_1, .val v_4, iv 0, .unset] [(.ref b7), (.ref b7)]))
    refine go_st (fun t k => XS.aload X7.here hx rfl (hb hby at_43) rfl hv_1 k) ?_
    show Go _ _ _ _ (T7.setTop (mkF m 45 #[iv p0, iv p1, iv p2, iv p3, iv p4, iv p5, .val v_1, .val v_4, iv 0, .unset] [v_1, (.ref b7), (.ref b7)]))
    refine go_st (fun t k => XS.aload X7.here hx rfl (hb hby at_45) rfl hv_4 k) ?_
    show Go _ _ _ _ (T7.setTop (mkF m 47 #[iv p0, iv p1, iv p2, iv p3, iv p4, iv p5, .val v_1, .val v_4, iv 0, .unset] [v_4, v_1, (.ref b7), (.ref b7)]))
    have sz11 : h0.size ≤ h4.size := (Nat.le_trans K1.1 K4.1)
    have g_b7 : n0 ≤ b7 := Nat.le_trans (Nat.le_trans Z0 sz11) (Nat.le_of_eq gq7.symm)
    have sz12 : h0.size ≤ h7.size := (Nat.le_trans sz11 E7.1)
    obtain ⟨_, _, ⟨T13, L13, kk13, nn13⟩, -, X13, ⟨Lc13, hQ13, lq13, yq13, zq13⟩, st13⟩ := X7.specialBack hx (y := (⟨"com/example/credence/credence/Credentials", "<init>", "(Ljava/lang/String;Ljava/lang/String;)V"⟩ : MethodName)) rfl hown4 (mvT hZ4 (w37 hw)) (mvT hZ4 (w38 hw)) (mvT hZ4 (w39 hw)) (by decide) (backOf (W := 1) (rm_cred l Z a0 hw [] b7 v_1 v_4 h7 n0 (Nat.le_trans Z0 sz12) A7 f9 f10 g_b7 hv_1 hv_4) hZ4 (w39 hw) (w36 hw) (by decide) (by decide)) (g := (mkF m 47 #[iv p0, iv p1, iv p2, iv p3, iv p4, iv p5, .val v_1, .val v_4, iv 0, .unset] [v_4, v_1, (.ref b7), (.ref b7)])) rfl (by rw [hml]; rfl) (Steps.refl _) (a := b7) (argsL := [v_1, v_4]) (rest := [(.ref b7)]) (lenOf pd_4 rfl) rfl (by show 2 * 0 + _ ≤ _; exact Nat.le_of_eq rfl) (hb hby at_47) (fun _ _ => ⟨rfl, e7, (by decide : 7 + 0 ≤ _), (by decide : 18 + 0 ≤ _)⟩)
    dsimp only [Pt.U, Pt.locs, Pt.cells, Pt.slots] at X13 lq13 yq13 zq13 st13 hQ13
    subst lq13 yq13 zq13
    obtain ⟨h13, e13⟩ : ∃ z, T13.heap = z := ⟨_, rfl⟩
    rw [e13] at hQ13
    obtain ⟨rfl, N13q, K13, p13_0, p13_1, p13_2⟩ := hQ13
    have N13 := Fr.app N4 N13q
    have C14 : CHr Z consts_1 s.vm h0 T4.vm h13 := CHr.trans C8 (CHr.keep K13 (sfS (Safe.exa hZ4.alike A7 (by decide) (by decide)) sf0) C8.1)
    refine go_tr st13 ?_
    show Go _ _ _ _ (T13.setTop (mkF m 50 #[iv p0, iv p1, iv p2, iv p3, iv p4, iv p5, .val v_1, .val v_4, iv 0, .unset] [(.ref b7)]))
    refine go_st (fun t k => XS.astore X13.here hx rfl (hb hby at_50) rfl rfl (l' := #[iv p0, iv p1, iv p2, iv p3, iv p4, iv p5, .val v_1, .val v_4, iv 0, rv b7]) rfl k) ?_
    show Go _ _ _ _ (T13.setTop (mkF m 52 #[iv p0, iv p1, iv p2, iv p3, iv p4, iv p5, .val v_1, .val v_4, iv 0, rv b7] []))
    refine go_st (fun t k => XS.aload X13.here hx rfl (hb hby at_52) rfl rfl k) ?_
    show Go _ _ _ _ (T13.setTop (mkF m 54 #[iv p0, iv p1, iv p2, iv p3, iv p4, iv p5, .val v_1, .val v_4, iv 0, rv b7] [(.ref b7)]))
    have xe15 : Ext h1 h4 := (ext_keep (ext_rfl h1) K4 all0)
    have xe16 : Ext h1 h7 := (ext_tr xe15 E7)
    have xe17 : Ext h1 h13 := (ext_keep xe16 K13 (allS (Nat.le_trans K4.1 (Nat.le_of_eq gq7.symm)) all0))
    have f18 : OStr Z h13 v_1 ne_1 := (p1_2.ext xe17)
    have xe19 : Ext h4 h7 := (ext_tr (ext_rfl h4) E7)
    have xe20 : Ext h4 h13 := (ext_keep xe19 K13 (allS (Nat.le_of_eq gq7.symm) all0))
    have f21 : OStr Z h13 v_4 ne_4 := (p4_2.ext xe20)
    have sz22 : h0.size ≤ h13.size := (Nat.le_trans sz12 K13.1)
    obtain ⟨cq23, kq23, q23a, q23b, q23c⟩ := isOf hZ4 e13 p13_0
    obtain ⟨_, _, ⟨T23, L23, kk23, nn23⟩, -, X23, ⟨Lc23, hQ23, lq23, yq23, zq23⟩, st23⟩ := X13.virtualBack hx (y := (⟨"com/example/credence/credence/Credentials", "complete", "()Z"⟩ : MethodName)) (z := (⟨"com/example/credence/credence/Credentials", "complete", "()Z"⟩ : MethodName)) hown4 (mvT hZ4 (w50 hw)) (mvT hZ4 (w51 hw)) (notFace_of_selects (args := #[]) (mvT hZ4 (w53 hw))) (mvT hZ4 (w53 hw)) (mvT hZ4 (w52 hw)) (by decide) (backOf (W := 0) (rm_complete l Z a0 hw [] b7 v_1 v_4 ne_1 ne_4 h13 n0 (Nat.le_trans Z0 sz22) p13_1 p13_2 hv_1 hv_4 f18 f21) hZ4 (w54 hw) (w36 hw) (by decide) (by decide)) q23a q23c (g := (mkF m 54 #[iv p0, iv p1, iv p2, iv p3, iv p4, iv p5, .val v_1, .val v_4, iv 0, rv b7] [(.ref b7)])) rfl (by rw [hml]; rfl) (Steps.refl _) (argsL := []) (rest := []) (lenOf pd_1 rfl) rfl (by show 2 * 0 + _ ≤ _; exact Nat.le_of_eq rfl) (hb hby at_54) (fun _ _ => ⟨rfl, e13, (by decide : 7 + 0 ≤ _), (by decide : 18 + 0 ≤ _)⟩)
    dsimp only [Pt.U, Pt.locs, Pt.cells, Pt.slots] at X23 lq23 yq23 zq23 st23 hQ23
    subst lq23 yq23 zq23
    obtain ⟨h23, e23⟩ : ∃ z, T23.heap = z := ⟨_, rfl⟩
    rw [e23] at hQ23
    obtain ⟨r_23, rfl, N23q, he23, hr_23⟩ := hQ23
    have N23 := Fr.app N13 N23q
    rw [he23] at e23
    refine go_tr st23 ?_
    show Go _ _ _ _ (T23.setTop (mkF m 57 #[iv p0, iv p1, iv p2, iv p3, iv p4, iv p5, .val v_1, .val v_4, iv 0, rv b7] [(.int r_23)]))
    refine go_st (fun t k => XS.iload X23.here hx rfl (hb hby at_57) rfl k) ?_
    show Go _ _ _ _ (T23.setTop (mkF m 59 #[iv p0, iv p1, iv p2, iv p3, iv p4, iv p5, .val v_1, .val v_4, iv 0, rv b7] [(.int 0), (.int r_23)]))
    refine go_st (fun t k => XS.icmpNo X23.here hx rfl (hb hby at_59) rfl (teq ((by rw [hr_23, hne_1, hne_4]; simp [hc6]) : r_23 = (0 : Int32))).2 k) ?_
    show Go _ _ _ _ (T23.setTop (mkF m 62 #[iv p0, iv p1, iv p2, iv p3, iv p4, iv p5, .val v_1, .val v_4, iv 0, rv b7] []))
    refine go_st (fun t k => XS.iconst X23.here hx rfl (hb hby at_62) k) ?_
    show Go _ _ _ _ (T23.setTop (mkF m 63 #[iv p0, iv p1, iv p2, iv p3, iv p4, iv p5, .val v_1, .val v_4, iv 0, rv b7] [(.int 1)]))
    refine go_st (fun t k => XS.goto X23.here hx rfl (pc0 := 63) (pc' := 67) rfl (hb hby at_63) (by decide) (by decide) k) ?_
    show Go _ _ _ _ (T23.setTop (mkF m 67 #[iv p0, iv p1, iv p2, iv p3, iv p4, iv p5, .val v_1, .val v_4, iv 0, rv b7] [(.int 1)]))
    have ke24 : Keep h0 h1 [] := (Keep.trans (Keep.refl h0 []) K1 all0)
    have ke25 : Keep h0 h4 [] := (Keep.trans ke24 K4 all0)
    have ke26 : Keep h0 h7 [] := (Keep.ext ke25 E7)
    have ke27 : Keep h0 h13 [] := (Keep.trans ke26 K13 (allS (Or.inr (Nat.le_trans sz11 (Nat.le_of_eq gq7.symm))) all0))
    have sz28 : h4.size ≤ h13.size := (Nat.le_trans E7.1 K13.1)
    obtain ⟨fs, hr, hrun, hended, hR⟩ := X23.leaveW hS4 (by rw [e23]; exact (Nat.le_trans (Nat.le_refl _) sz28)) (v := some (.int 1)) (fun h => by rw [Bd.returns] at h; cases h)
    refine ⟨_, _, ?_, hrun, hended, _, _, rfl, ?_, ?_, hR.1, hR.2.1, hR.2.2.1, hR.2.2.2.mono (by decide) (by decide)⟩
    · exact retN X23 hx (t := .boolean) Bd.returns (by simp) (hb hby at_67) hr
    · show Q_law _ _ _ _ _ _ _ _ _ _ _ T23.heap _
      rw [e23]
      exact ⟨rfl, N23, ke27⟩
    · show CHr Z consts_1 s.vm s.heap T23.vm T23.heap
      rw [hh, e23]
      exact CHr.trans C14 (CHv.at X23 hZ4 (hEL hw) C14.1)
  · skip
    refine go_st (fun t k => XS.icmpNo X4.here hx rfl (hb hby at_22) rfl (flt (hc6 : ¬ ((p0 &&& (3 : Int32)) < (2 : Int32)))).1 k) ?_
    show Go _ _ _ _ (T4.setTop (mkF m 25 #[iv p0, iv p1, iv p2, iv p3, iv p4, iv p5, .val v_1, .val v_4, .unset, .unset] []))
    refine go_st (fun t k => XS.iloadN X4.here hx rfl (hb hby at_25) rfl k) ?_
    show Go _ _ _ _ (T4.setTop (mkF m 26 #[iv p0, iv p1, iv p2, iv p3, iv p4, iv p5, .val v_1, .val v_4, .unset, .unset] [(.int p1)]))
    refine go_st (fun t k => XS.iconst X4.here hx rfl (hb hby at_26) k) ?_
    show Go _ _ _ _ (T4.setTop (mkF m 27 #[iv p0, iv p1, iv p2, iv p3, iv p4, iv p5, .val v_1, .val v_4, .unset, .unset] [(.int 3), (.int p1)]))
    refine go_st (fun t k => XS.iand X4.here hx rfl (hb hby at_27) rfl k) ?_
    show Go _ _ _ _ (T4.setTop (mkF m 28 #[iv p0, iv p1, iv p2, iv p3, iv p4, iv p5, .val v_1, .val v_4, .unset, .unset] [(.int (p1 &&& (3 : Int32)))]))
    refine go_st (fun t k => XS.iconst X4.here hx rfl (hb hby at_28) k) ?_
    show Go _ _ _ _ (T4.setTop (mkF m 29 #[iv p0, iv p1, iv p2, iv p3, iv p4, iv p5, .val v_1, .val v_4, .unset, .unset] [(.int 2), (.int (p1 &&& (3 : Int32)))]))
    by_cases hc29 : (p1 &&& (3 : Int32)) < (2 : Int32)
    · skip
      refine go_st (fun t k => XS.icmpYes X4.here hx rfl (pc0 := 29) (pc' := 36) rfl (hb hby at_29) rfl (tlt (hc29 : (p1 &&& (3 : Int32)) < (2 : Int32))).1 (by decide) (by decide) k) ?_
      show Go _ _ _ _ (T4.setTop (mkF m 36 #[iv p0, iv p1, iv p2, iv p3, iv p4, iv p5, .val v_1, .val v_4, .unset, .unset] []))
      refine go_st (fun t k => XS.iconst X4.here hx rfl (hb hby at_36) k) ?_
      show Go _ _ _ _ (T4.setTop (mkF m 37 #[iv p0, iv p1, iv p2, iv p3, iv p4, iv p5, .val v_1, .val v_4, .unset, .unset] [(.int 0)]))
      refine go_st (fun t k => XS.istore X4.here hx rfl (hb hby at_37) rfl (l' := #[iv p0, iv p1, iv p2, iv p3, iv p4, iv p5, .val v_1, .val v_4, iv 0, .unset]) rfl k) ?_
      show Go _ _ _ _ (T4.setTop (mkF m 39 #[iv p0, iv p1, iv p2, iv p3, iv p4, iv p5, .val v_1, .val v_4, iv 0, .unset] []))
      obtain ⟨T30, h30, X30, e30, E30, A30, D30, -, st30⟩ := newO X4 hx hZ4 hown4 (w34 hw) (w35 hw) (w36 hw) e4 (g := (mkF m 39 #[iv p0, iv p1, iv p2, iv p3, iv p4, iv p5, .val v_1, .val v_4, iv 0, .unset] [])) rfl (hb hby at_39) (by decide) (by decide)
      obtain ⟨b30, gq30⟩ : ∃ z, z = h4.size := ⟨_, rfl⟩
      rw [← gq30] at A30 D30 st30
      have C31 : CHr Z consts_1 s.vm h0 T4.vm h30 := CHr.trans C5 (CHr.ext E30 C5.1)
      have f32 : Fld Z h30 b30 "com/example/credence/credence/Credentials" "username" "Ljava/lang/String;" .null := D30 (Or.inr (w47 hw)) (ty := (.object "java/lang/String")) (by decide)
      have f33 : Fld Z h30 b30 "com/example/credence/credence/Credentials" "password" "Ljava/lang/String;" .null := D30 (Or.inr (w49 hw)) (ty := (.object "java/lang/String")) (by decide)
      refine go_st (fun t k => st30 t k) ?_
      show Go _ _ _ _ (T30.setTop (mkF m 42 #[iv p0, iv p1, iv p2, iv p3, iv p4, iv p5, .val v_1, .val v_4, iv 0, .unset] [(.ref b30)]))
      refine go_st (fun t k => XS.dup X30.here hx rfl (hb hby at_42) rfl rfl k) ?_
      show Go _ _ _ _ (T30.setTop (mkF m 43 #[iv p0, iv p1, iv p2, iv p3, iv p4, iv p5, .val v_1, .val v_4, iv 0, .unset] [(.ref b30), (.ref b30)]))
      refine go_st (fun t k => XS.aload X30.here hx rfl (hb hby at_43) rfl hv_1 k) ?_
      show Go _ _ _ _ (T30.setTop (mkF m 45 #[iv p0, iv p1, iv p2, iv p3, iv p4, iv p5, .val v_1, .val v_4, iv 0, .unset] [v_1, (.ref b30), (.ref b30)]))
      refine go_st (fun t k => XS.aload X30.here hx rfl (hb hby at_45) rfl hv_4 k) ?_
      show Go _ _ _ _ (T30.setTop (mkF m 47 #[iv p0, iv p1, iv p2, iv p3, iv p4, iv p5, .val v_1, .val v_4, iv 0, .unset] [v_4, v_1, (.ref b30), (.ref b30)]))
      have sz34 : h0.size ≤ h4.size := (Nat.le_trans K1.1 K4.1)
      have g_b30 : n0 ≤ b30 := Nat.le_trans (Nat.le_trans Z0 sz34) (Nat.le_of_eq gq30.symm)
      have sz35 : h0.size ≤ h30.size := (Nat.le_trans sz34 E30.1)
      obtain ⟨_, _, ⟨T36, L36, kk36, nn36⟩, -, X36, ⟨Lc36, hQ36, lq36, yq36, zq36⟩, st36⟩ := X30.specialBack hx (y := (⟨"com/example/credence/credence/Credentials", "<init>", "(Ljava/lang/String;Ljava/lang/String;)V"⟩ : MethodName)) rfl hown4 (mvT hZ4 (w37 hw)) (mvT hZ4 (w38 hw)) (mvT hZ4 (w39 hw)) (by decide) (backOf (W := 1) (rm_cred l Z a0 hw [] b30 v_1 v_4 h30 n0 (Nat.le_trans Z0 sz35) A30 f32 f33 g_b30 hv_1 hv_4) hZ4 (w39 hw) (w36 hw) (by decide) (by decide)) (g := (mkF m 47 #[iv p0, iv p1, iv p2, iv p3, iv p4, iv p5, .val v_1, .val v_4, iv 0, .unset] [v_4, v_1, (.ref b30), (.ref b30)])) rfl (by rw [hml]; rfl) (Steps.refl _) (a := b30) (argsL := [v_1, v_4]) (rest := [(.ref b30)]) (lenOf pd_4 rfl) rfl (by show 2 * 0 + _ ≤ _; exact Nat.le_of_eq rfl) (hb hby at_47) (fun _ _ => ⟨rfl, e30, (by decide : 7 + 0 ≤ _), (by decide : 18 + 0 ≤ _)⟩)
      dsimp only [Pt.U, Pt.locs, Pt.cells, Pt.slots] at X36 lq36 yq36 zq36 st36 hQ36
      subst lq36 yq36 zq36
      obtain ⟨h36, e36⟩ : ∃ z, T36.heap = z := ⟨_, rfl⟩
      rw [e36] at hQ36
      obtain ⟨rfl, N36q, K36, p36_0, p36_1, p36_2⟩ := hQ36
      have N36 := Fr.app N4 N36q
      have C37 : CHr Z consts_1 s.vm h0 T4.vm h36 := CHr.trans C31 (CHr.keep K36 (sfS (Safe.exa hZ4.alike A30 (by decide) (by decide)) sf0) C31.1)
      refine go_tr st36 ?_
      show Go _ _ _ _ (T36.setTop (mkF m 50 #[iv p0, iv p1, iv p2, iv p3, iv p4, iv p5, .val v_1, .val v_4, iv 0, .unset] [(.ref b30)]))
      refine go_st (fun t k => XS.astore X36.here hx rfl (hb hby at_50) rfl rfl (l' := #[iv p0, iv p1, iv p2, iv p3, iv p4, iv p5, .val v_1, .val v_4, iv 0, rv b30]) rfl k) ?_
      show Go _ _ _ _ (T36.setTop (mkF m 52 #[iv p0, iv p1, iv p2, iv p3, iv p4, iv p5, .val v_1, .val v_4, iv 0, rv b30] []))
      refine go_st (fun t k => XS.aload X36.here hx rfl (hb hby at_52) rfl rfl k) ?_
      show Go _ _ _ _ (T36.setTop (mkF m 54 #[iv p0, iv p1, iv p2, iv p3, iv p4, iv p5, .val v_1, .val v_4, iv 0, rv b30] [(.ref b30)]))
      have xe38 : Ext h1 h4 := (ext_keep (ext_rfl h1) K4 all0)
      have xe39 : Ext h1 h30 := (ext_tr xe38 E30)
      have xe40 : Ext h1 h36 := (ext_keep xe39 K36 (allS (Nat.le_trans K4.1 (Nat.le_of_eq gq30.symm)) all0))
      have f41 : OStr Z h36 v_1 ne_1 := (p1_2.ext xe40)
      have xe42 : Ext h4 h30 := (ext_tr (ext_rfl h4) E30)
      have xe43 : Ext h4 h36 := (ext_keep xe42 K36 (allS (Nat.le_of_eq gq30.symm) all0))
      have f44 : OStr Z h36 v_4 ne_4 := (p4_2.ext xe43)
      have sz45 : h0.size ≤ h36.size := (Nat.le_trans sz35 K36.1)
      obtain ⟨cq46, kq46, q46a, q46b, q46c⟩ := isOf hZ4 e36 p36_0
      obtain ⟨_, _, ⟨T46, L46, kk46, nn46⟩, -, X46, ⟨Lc46, hQ46, lq46, yq46, zq46⟩, st46⟩ := X36.virtualBack hx (y := (⟨"com/example/credence/credence/Credentials", "complete", "()Z"⟩ : MethodName)) (z := (⟨"com/example/credence/credence/Credentials", "complete", "()Z"⟩ : MethodName)) hown4 (mvT hZ4 (w50 hw)) (mvT hZ4 (w51 hw)) (notFace_of_selects (args := #[]) (mvT hZ4 (w53 hw))) (mvT hZ4 (w53 hw)) (mvT hZ4 (w52 hw)) (by decide) (backOf (W := 0) (rm_complete l Z a0 hw [] b30 v_1 v_4 ne_1 ne_4 h36 n0 (Nat.le_trans Z0 sz45) p36_1 p36_2 hv_1 hv_4 f41 f44) hZ4 (w54 hw) (w36 hw) (by decide) (by decide)) q46a q46c (g := (mkF m 54 #[iv p0, iv p1, iv p2, iv p3, iv p4, iv p5, .val v_1, .val v_4, iv 0, rv b30] [(.ref b30)])) rfl (by rw [hml]; rfl) (Steps.refl _) (argsL := []) (rest := []) (lenOf pd_1 rfl) rfl (by show 2 * 0 + _ ≤ _; exact Nat.le_of_eq rfl) (hb hby at_54) (fun _ _ => ⟨rfl, e36, (by decide : 7 + 0 ≤ _), (by decide : 18 + 0 ≤ _)⟩)
      dsimp only [Pt.U, Pt.locs, Pt.cells, Pt.slots] at X46 lq46 yq46 zq46 st46 hQ46
      subst lq46 yq46 zq46
      obtain ⟨h46, e46⟩ : ∃ z, T46.heap = z := ⟨_, rfl⟩
      rw [e46] at hQ46
      obtain ⟨r_46, rfl, N46q, he46, hr_46⟩ := hQ46
      have N46 := Fr.app N36 N46q
      rw [he46] at e46
      refine go_tr st46 ?_
      show Go _ _ _ _ (T46.setTop (mkF m 57 #[iv p0, iv p1, iv p2, iv p3, iv p4, iv p5, .val v_1, .val v_4, iv 0, rv b30] [(.int r_46)]))
      refine go_st (fun t k => XS.iload X46.here hx rfl (hb hby at_57) rfl k) ?_
      show Go _ _ _ _ (T46.setTop (mkF m 59 #[iv p0, iv p1, iv p2, iv p3, iv p4, iv p5, .val v_1, .val v_4, iv 0, rv b30] [(.int 0), (.int r_46)]))
      refine go_st (fun t k => XS.icmpNo X46.here hx rfl (hb hby at_59) rfl (teq ((by rw [hr_46, hne_1, hne_4]; simp [hc6, hc29]) : r_46 = (0 : Int32))).2 k) ?_
      show Go _ _ _ _ (T46.setTop (mkF m 62 #[iv p0, iv p1, iv p2, iv p3, iv p4, iv p5, .val v_1, .val v_4, iv 0, rv b30] []))
      refine go_st (fun t k => XS.iconst X46.here hx rfl (hb hby at_62) k) ?_
      show Go _ _ _ _ (T46.setTop (mkF m 63 #[iv p0, iv p1, iv p2, iv p3, iv p4, iv p5, .val v_1, .val v_4, iv 0, rv b30] [(.int 1)]))
      refine go_st (fun t k => XS.goto X46.here hx rfl (pc0 := 63) (pc' := 67) rfl (hb hby at_63) (by decide) (by decide) k) ?_
      show Go _ _ _ _ (T46.setTop (mkF m 67 #[iv p0, iv p1, iv p2, iv p3, iv p4, iv p5, .val v_1, .val v_4, iv 0, rv b30] [(.int 1)]))
      have ke47 : Keep h0 h1 [] := (Keep.trans (Keep.refl h0 []) K1 all0)
      have ke48 : Keep h0 h4 [] := (Keep.trans ke47 K4 all0)
      have ke49 : Keep h0 h30 [] := (Keep.ext ke48 E30)
      have ke50 : Keep h0 h36 [] := (Keep.trans ke49 K36 (allS (Or.inr (Nat.le_trans sz34 (Nat.le_of_eq gq30.symm))) all0))
      have sz51 : h4.size ≤ h36.size := (Nat.le_trans E30.1 K36.1)
      obtain ⟨fs, hr, hrun, hended, hR⟩ := X46.leaveW hS4 (by rw [e46]; exact (Nat.le_trans (Nat.le_refl _) sz51)) (v := some (.int 1)) (fun h => by rw [Bd.returns] at h; cases h)
      refine ⟨_, _, ?_, hrun, hended, _, _, rfl, ?_, ?_, hR.1, hR.2.1, hR.2.2.1, hR.2.2.2.mono (by decide) (by decide)⟩
      · exact retN X46 hx (t := .boolean) Bd.returns (by simp) (hb hby at_67) hr
      · show Q_law _ _ _ _ _ _ _ _ _ _ _ T46.heap _
        rw [e46]
        exact ⟨rfl, N46, ke50⟩
      · show CHr Z consts_1 s.vm s.heap T46.vm T46.heap
        rw [hh, e46]
        exact CHr.trans C37 (CHv.at X46 hZ4 (hEL hw) C37.1)
    · skip
      refine go_st (fun t k => XS.icmpNo X4.here hx rfl (hb hby at_29) rfl (flt (hc29 : ¬ ((p1 &&& (3 : Int32)) < (2 : Int32)))).1 k) ?_
      show Go _ _ _ _ (T4.setTop (mkF m 32 #[iv p0, iv p1, iv p2, iv p3, iv p4, iv p5, .val v_1, .val v_4, .unset, .unset] []))
      refine go_st (fun t k => XS.iconst X4.here hx rfl (hb hby at_32) k) ?_
      show Go _ _ _ _ (T4.setTop (mkF m 33 #[iv p0, iv p1, iv p2, iv p3, iv p4, iv p5, .val v_1, .val v_4, .unset, .unset] [(.int 1)]))
      refine go_st (fun t k => XS.goto X4.here hx rfl (pc0 := 33) (pc' := 37) rfl (hb hby at_33) (by decide) (by decide) k) ?_
      show Go _ _ _ _ (T4.setTop (mkF m 37 #[iv p0, iv p1, iv p2, iv p3, iv p4, iv p5, .val v_1, .val v_4, .unset, .unset] [(.int 1)]))
      refine go_st (fun t k => XS.istore X4.here hx rfl (hb hby at_37) rfl (l' := #[iv p0, iv p1, iv p2, iv p3, iv p4, iv p5, .val v_1, .val v_4, iv 1, .unset]) rfl k) ?_
      show Go _ _ _ _ (T4.setTop (mkF m 39 #[iv p0, iv p1, iv p2, iv p3, iv p4, iv p5, .val v_1, .val v_4, iv 1, .unset] []))
      obtain ⟨T52, h52, X52, e52, E52, A52, D52, -, st52⟩ := newO X4 hx hZ4 hown4 (w34 hw) (w35 hw) (w36 hw) e4 (g := (mkF m 39 #[iv p0, iv p1, iv p2, iv p3, iv p4, iv p5, .val v_1, .val v_4, iv 1, .unset] [])) rfl (hb hby at_39) (by decide) (by decide)
      obtain ⟨b52, gq52⟩ : ∃ z, z = h4.size := ⟨_, rfl⟩
      rw [← gq52] at A52 D52 st52
      have C53 : CHr Z consts_1 s.vm h0 T4.vm h52 := CHr.trans C5 (CHr.ext E52 C5.1)
      have f54 : Fld Z h52 b52 "com/example/credence/credence/Credentials" "username" "Ljava/lang/String;" .null := D52 (Or.inr (w47 hw)) (ty := (.object "java/lang/String")) (by decide)
      have f55 : Fld Z h52 b52 "com/example/credence/credence/Credentials" "password" "Ljava/lang/String;" .null := D52 (Or.inr (w49 hw)) (ty := (.object "java/lang/String")) (by decide)
      refine go_st (fun t k => st52 t k) ?_
      show Go _ _ _ _ (T52.setTop (mkF m 42 #[iv p0, iv p1, iv p2, iv p3, iv p4, iv p5, .val v_1, .val v_4, iv 1, .unset] [(.ref b52)]))
      refine go_st (fun t k => XS.dup X52.here hx rfl (hb hby at_42) rfl rfl k) ?_
      show Go _ _ _ _ (T52.setTop (mkF m 43 #[iv p0, iv p1, iv p2, iv p3, iv p4, iv p5, .val v_1, .val v_4, iv 1, .unset] [(.ref b52), (.ref b52)]))
      refine go_st (fun t k => XS.aload X52.here hx rfl (hb hby at_43) rfl hv_1 k) ?_
      show Go _ _ _ _ (T52.setTop (mkF m 45 #[iv p0, iv p1, iv p2, iv p3, iv p4, iv p5, .val v_1, .val v_4, iv 1, .unset] [v_1, (.ref b52), (.ref b52)]))
      refine go_st (fun t k => XS.aload X52.here hx rfl (hb hby at_45) rfl hv_4 k) ?_
      show Go _ _ _ _ (T52.setTop (mkF m 47 #[iv p0, iv p1, iv p2, iv p3, iv p4, iv p5, .val v_1, .val v_4, iv 1, .unset] [v_4, v_1, (.ref b52), (.ref b52)]))
      have sz56 : h0.size ≤ h4.size := (Nat.le_trans K1.1 K4.1)
      have g_b52 : n0 ≤ b52 := Nat.le_trans (Nat.le_trans Z0 sz56) (Nat.le_of_eq gq52.symm)
      have sz57 : h0.size ≤ h52.size := (Nat.le_trans sz56 E52.1)
      obtain ⟨_, _, ⟨T58, L58, kk58, nn58⟩, -, X58, ⟨Lc58, hQ58, lq58, yq58, zq58⟩, st58⟩ := X52.specialBack hx (y := (⟨"com/example/credence/credence/Credentials", "<init>", "(Ljava/lang/String;Ljava/lang/String;)V"⟩ : MethodName)) rfl hown4 (mvT hZ4 (w37 hw)) (mvT hZ4 (w38 hw)) (mvT hZ4 (w39 hw)) (by decide) (backOf (W := 1) (rm_cred l Z a0 hw [] b52 v_1 v_4 h52 n0 (Nat.le_trans Z0 sz57) A52 f54 f55 g_b52 hv_1 hv_4) hZ4 (w39 hw) (w36 hw) (by decide) (by decide)) (g := (mkF m 47 #[iv p0, iv p1, iv p2, iv p3, iv p4, iv p5, .val v_1, .val v_4, iv 1, .unset] [v_4, v_1, (.ref b52), (.ref b52)])) rfl (by rw [hml]; rfl) (Steps.refl _) (a := b52) (argsL := [v_1, v_4]) (rest := [(.ref b52)]) (lenOf pd_4 rfl) rfl (by show 2 * 0 + _ ≤ _; exact Nat.le_of_eq rfl) (hb hby at_47) (fun _ _ => ⟨rfl, e52, (by decide : 7 + 0 ≤ _), (by decide : 18 + 0 ≤ _)⟩)
      dsimp only [Pt.U, Pt.locs, Pt.cells, Pt.slots] at X58 lq58 yq58 zq58 st58 hQ58
      subst lq58 yq58 zq58
      obtain ⟨h58, e58⟩ : ∃ z, T58.heap = z := ⟨_, rfl⟩
      rw [e58] at hQ58
      obtain ⟨rfl, N58q, K58, p58_0, p58_1, p58_2⟩ := hQ58
      have N58 := Fr.app N4 N58q
      have C59 : CHr Z consts_1 s.vm h0 T4.vm h58 := CHr.trans C53 (CHr.keep K58 (sfS (Safe.exa hZ4.alike A52 (by decide) (by decide)) sf0) C53.1)
      refine go_tr st58 ?_
      show Go _ _ _ _ (T58.setTop (mkF m 50 #[iv p0, iv p1, iv p2, iv p3, iv p4, iv p5, .val v_1, .val v_4, iv 1, .unset] [(.ref b52)]))
      refine go_st (fun t k => XS.astore X58.here hx rfl (hb hby at_50) rfl rfl (l' := #[iv p0, iv p1, iv p2, iv p3, iv p4, iv p5, .val v_1, .val v_4, iv 1, rv b52]) rfl k) ?_
      show Go _ _ _ _ (T58.setTop (mkF m 52 #[iv p0, iv p1, iv p2, iv p3, iv p4, iv p5, .val v_1, .val v_4, iv 1, rv b52] []))
      refine go_st (fun t k => XS.aload X58.here hx rfl (hb hby at_52) rfl rfl k) ?_
      show Go _ _ _ _ (T58.setTop (mkF m 54 #[iv p0, iv p1, iv p2, iv p3, iv p4, iv p5, .val v_1, .val v_4, iv 1, rv b52] [(.ref b52)]))
      have xe60 : Ext h1 h4 := (ext_keep (ext_rfl h1) K4 all0)
      have xe61 : Ext h1 h52 := (ext_tr xe60 E52)
      have xe62 : Ext h1 h58 := (ext_keep xe61 K58 (allS (Nat.le_trans K4.1 (Nat.le_of_eq gq52.symm)) all0))
      have f63 : OStr Z h58 v_1 ne_1 := (p1_2.ext xe62)
      have xe64 : Ext h4 h52 := (ext_tr (ext_rfl h4) E52)
      have xe65 : Ext h4 h58 := (ext_keep xe64 K58 (allS (Nat.le_of_eq gq52.symm) all0))
      have f66 : OStr Z h58 v_4 ne_4 := (p4_2.ext xe65)
      have sz67 : h0.size ≤ h58.size := (Nat.le_trans sz57 K58.1)
      obtain ⟨cq68, kq68, q68a, q68b, q68c⟩ := isOf hZ4 e58 p58_0
      obtain ⟨_, _, ⟨T68, L68, kk68, nn68⟩, -, X68, ⟨Lc68, hQ68, lq68, yq68, zq68⟩, st68⟩ := X58.virtualBack hx (y := (⟨"com/example/credence/credence/Credentials", "complete", "()Z"⟩ : MethodName)) (z := (⟨"com/example/credence/credence/Credentials", "complete", "()Z"⟩ : MethodName)) hown4 (mvT hZ4 (w50 hw)) (mvT hZ4 (w51 hw)) (notFace_of_selects (args := #[]) (mvT hZ4 (w53 hw))) (mvT hZ4 (w53 hw)) (mvT hZ4 (w52 hw)) (by decide) (backOf (W := 0) (rm_complete l Z a0 hw [] b52 v_1 v_4 ne_1 ne_4 h58 n0 (Nat.le_trans Z0 sz67) p58_1 p58_2 hv_1 hv_4 f63 f66) hZ4 (w54 hw) (w36 hw) (by decide) (by decide)) q68a q68c (g := (mkF m 54 #[iv p0, iv p1, iv p2, iv p3, iv p4, iv p5, .val v_1, .val v_4, iv 1, rv b52] [(.ref b52)])) rfl (by rw [hml]; rfl) (Steps.refl _) (argsL := []) (rest := []) (lenOf pd_1 rfl) rfl (by show 2 * 0 + _ ≤ _; exact Nat.le_of_eq rfl) (hb hby at_54) (fun _ _ => ⟨rfl, e58, (by decide : 7 + 0 ≤ _), (by decide : 18 + 0 ≤ _)⟩)
      dsimp only [Pt.U, Pt.locs, Pt.cells, Pt.slots] at X68 lq68 yq68 zq68 st68 hQ68
      subst lq68 yq68 zq68
      obtain ⟨h68, e68⟩ : ∃ z, T68.heap = z := ⟨_, rfl⟩
      rw [e68] at hQ68
      obtain ⟨r_68, rfl, N68q, he68, hr_68⟩ := hQ68
      have N68 := Fr.app N58 N68q
      rw [he68] at e68
      refine go_tr st68 ?_
      show Go _ _ _ _ (T68.setTop (mkF m 57 #[iv p0, iv p1, iv p2, iv p3, iv p4, iv p5, .val v_1, .val v_4, iv 1, rv b52] [(.int r_68)]))
      refine go_st (fun t k => XS.iload X68.here hx rfl (hb hby at_57) rfl k) ?_
      show Go _ _ _ _ (T68.setTop (mkF m 59 #[iv p0, iv p1, iv p2, iv p3, iv p4, iv p5, .val v_1, .val v_4, iv 1, rv b52] [(.int 1), (.int r_68)]))
      refine go_st (fun t k => XS.icmpNo X68.here hx rfl (hb hby at_59) rfl (teq ((by rw [hr_68, hne_1, hne_4]; simp [hc6, hc29]) : r_68 = (1 : Int32))).2 k) ?_
      show Go _ _ _ _ (T68.setTop (mkF m 62 #[iv p0, iv p1, iv p2, iv p3, iv p4, iv p5, .val v_1, .val v_4, iv 1, rv b52] []))
      refine go_st (fun t k => XS.iconst X68.here hx rfl (hb hby at_62) k) ?_
      show Go _ _ _ _ (T68.setTop (mkF m 63 #[iv p0, iv p1, iv p2, iv p3, iv p4, iv p5, .val v_1, .val v_4, iv 1, rv b52] [(.int 1)]))
      refine go_st (fun t k => XS.goto X68.here hx rfl (pc0 := 63) (pc' := 67) rfl (hb hby at_63) (by decide) (by decide) k) ?_
      show Go _ _ _ _ (T68.setTop (mkF m 67 #[iv p0, iv p1, iv p2, iv p3, iv p4, iv p5, .val v_1, .val v_4, iv 1, rv b52] [(.int 1)]))
      have ke69 : Keep h0 h1 [] := (Keep.trans (Keep.refl h0 []) K1 all0)
      have ke70 : Keep h0 h4 [] := (Keep.trans ke69 K4 all0)
      have ke71 : Keep h0 h52 [] := (Keep.ext ke70 E52)
      have ke72 : Keep h0 h58 [] := (Keep.trans ke71 K58 (allS (Or.inr (Nat.le_trans sz56 (Nat.le_of_eq gq52.symm))) all0))
      have sz73 : h4.size ≤ h58.size := (Nat.le_trans E52.1 K58.1)
      obtain ⟨fs, hr, hrun, hended, hR⟩ := X68.leaveW hS4 (by rw [e68]; exact (Nat.le_trans (Nat.le_refl _) sz73)) (v := some (.int 1)) (fun h => by rw [Bd.returns] at h; cases h)
      refine ⟨_, _, ?_, hrun, hended, _, _, rfl, ?_, ?_, hR.1, hR.2.1, hR.2.2.1, hR.2.2.2.mono (by decide) (by decide)⟩
      · exact retN X68 hx (t := .boolean) Bd.returns (by simp) (hb hby at_67) hr
      · show Q_law _ _ _ _ _ _ _ _ _ _ _ T68.heap _
        rw [e68]
        exact ⟨rfl, N68, ke72⟩
      · show CHr Z consts_1 s.vm s.heap T68.vm T68.heap
        rw [hh, e68]
        exact CHr.trans C59 (CHv.at X68 hZ4 (hEL hw) C59.1)
set_option maxRecDepth 65536 in
set_option maxHeartbeats 40000000 in
theorem comes_1 {Post : Tables → Env → Array Value → State → Outcome → State → Prop} (hpost : ∀ tb e args s v u, (limb_1_1.after args s (.returned v) u = true ∧ limb_1_2.after args s (.returned v) u = true ∧ True) → ReturnedEndW s (.returned v) u (Jvm.fieldLocs frame_1_writes args s ++ Jvm.arrayLocs frame_1_arrays args s ++ Jvm.staticLocs frame_1_statics s) 24 1152 → Post tb e args s (.returned v) u) :
    ArmFor flags0 classFile x code maxLocals ret World_1 tables_1 room_1 Calls_1 rest_1 Pre_1 Post := by
  intro l hfl _ _ p e ha hc hk s m args below hf hA hF happ hP
  obtain ⟨hcalls, hrest, hpre⟩ := hP
  obtain ⟨-, -, -, hnamed, -, -, -, hat⟩ := (Spec.applies_iff hf).mp happ
  obtain ⟨hg, hn⟩ := and_e (Cond.before_iff.mp (show (Jvm.Cond.and given_1 narrow_1).before args s = true from hpre))
  obtain ⟨hcnt, ha0⟩ := and_e hg
  obtain ⟨gi0, ha1⟩ := and_e ha0
  obtain ⟨gi1, ha2⟩ := and_e ha1
  obtain ⟨gi2, ha3⟩ := and_e ha2
  obtain ⟨gi3, ha4⟩ := and_e ha3
  obtain ⟨gi4, ha5⟩ := and_e ha4
  have gi5 := ha5
  obtain ⟨w0_, w1_, w2_, w3_, w4_, w5_, rfl⟩ : ∃ w0_ w1_ w2_ w3_ w4_ w5_ : Value, args = #[w0_, w1_, w2_, w3_, w4_, w5_] := by
    have hs : args.size = 6 := by simpa [Cond.value, given_1] using hcnt
    obtain ⟨L⟩ := args
    match L, hs with
    | [w0_, w1_, w2_, w3_, w4_, w5_], _ => exact ⟨w0_, w1_, w2_, w3_, w4_, w5_, rfl⟩
  have hw := fun d (hd : d ∈ tables_1) => atoms_spec (ws := Jvm.Cond.code x code maxLocals ret :: tables_1) hat d (List.mem_cons_of_mem _ hd)
  have hfit : Fit s := fun {y c} hc i hi => by
    obtain ⟨ha, rfl⟩ := Array.getElem?_eq_some_iff.mp hc
    have q := List.all_eq_true.mp ((Array.all_eq_true_iff_forall_mem.mp hF) _ (Array.getElem_mem ha)) i (List.mem_range.mpr hi)
    simpa [Array.getElem?_eq_getElem hi] using q
  obtain ⟨hsets, hown0⟩ := atoms_of _ (rest_1_c_eq ▸ (show rest_1_c.before _ s = true from hrest))
  obtain ⟨i0, ei0⟩ := is_v gi0
  obtain rfl : w0_ = (.int i0) := Option.some.inj ei0
  obtain ⟨i1, ei1⟩ := is_v gi1
  obtain rfl : w1_ = (.int i1) := Option.some.inj ei1
  obtain ⟨i2, ei2⟩ := is_v gi2
  obtain rfl : w2_ = (.int i2) := Option.some.inj ei2
  obtain ⟨i3, ei3⟩ := is_v gi3
  obtain rfl : w3_ = (.int i3) := Option.some.inj ei3
  obtain ⟨i4, ei4⟩ := is_v gi4
  obtain rfl : w4_ = (.int i4) := Option.some.inj ei4
  obtain ⟨i5, ei5⟩ := is_v gi5
  obtain rfl : w5_ = (.int i5) := Option.some.inj ei5
  have n3 := not_v (Cond.before_iff.mp (hsets _ (List.mem_of_getElem? (i := 2) rfl)))
  obtain ⟨G1, e6⟩ := is_v (Cond.before_iff.mp (hsets _ (List.mem_of_getElem? (i := 1) rfl)))
  have CS : Sta s s.heap "java/lang/String" "COMPACT_STRINGS" "Z" (.int G1) := Sta.start e6 (Or.inl (hsets _ (List.mem_of_getElem? (i := 0) rfl)))
  have CSn : ¬ (G1 = (0 : Int32)) := gotF (Cond.eq_ints e6 (Term.int_eval (0))) n3
  obtain ⟨n, o, h1, h2, h3, _, L, rfl, ⟨rfl, N, -⟩, -, hq⟩ := rm_law l s _ hw tables_1 i0 i1 i2 i3 i4 i5 G1 s.heap s.heap.size (Nat.le_refl _) CS CSn (Old.start s) p e ha hc hk s m _ below hf ((Spec.applies_iff_loose hf).mp happ).1 ⟨rfl, State.Warmed39.refl s, rfl, CHv.start (hEL hw) hcalls.1 (hsets _ (List.mem_of_getElem? (i := 2) rfl)) (w23 hw) (w6 hw)⟩ trivial
  refine ⟨n, _, h1, h2, h3, hpost _ _ _ _ _ _ ⟨Cond.after_iff.mpr rfl, Cond.after_iff.mpr (eq_i res_at (Term.int_eval (1)) rfl), trivial⟩ ⟨hq.1, hq.2.1, hq.2.2.1, (hq.2.2.2.sift fun y hy => Or.inr (N y hy)).mono (by decide) (by decide)⟩⟩
theorem main_1_1 : Claimed_1_1 := comes_1 fun _ _ _ _ _ _ h hF => ⟨h.1, hF⟩
theorem main_1_2 : Claimed_1_2 := comes_1 fun _ _ _ _ _ _ h hF => ⟨h.2.1, hF⟩
end Jvm.Pilot.@@N@@
namespace Jvm.Pilot.@@N@@
open Jvm Jvm.ClassFile Sem Op Lib Jvm.Free Jvm.Stand Jvm.Pilot.@@N@@.Jvm.D
/-! MADE BY PROGRAM (witnessworld.py) out of the Statement's table words and the real class files: 21 classes; the members and pool entries that the words name. The judged class is class 1, her method 2. -/
namespace start1
open Jvm.ClassFile
def u (s : String) : CpInfo := .utf8 (stringToUtf16 s)
/-- a pool by its gaps: so many unusable entries, then the entry; so many at the end -/
def gap : Nat → List CpInfo → List CpInfo
  | 0, r => r
  | n + 1, r => .unusable :: gap n r
def poolList (es : List (Nat × CpInfo)) (last : Nat) : List CpInfo := es.foldr (fun e r => gap e.1 (e.2 :: r)) (gap last [])
def pool (es : List (Nat × CpInfo)) (last : Nat) : Array CpInfo := ⟨poolList es last⟩
def fileOf (pool : Array CpInfo) (this : Nat) (attrs : Array Attribute := #[]) (ms : Array MethodInfo := #[]) (fl : Nat := 33) (sup : Nat := 0) (ifs : Array Nat := #[]) (fds : Array FieldInfo := #[]) : ClassFile where
  minorVersion := 0
  majorVersion := 65
  constantPool := pool
  accessFlags := fl
  thisClass := this
  superClass := sup
  interfaces := ifs
  fields := fds
  methods := ms
  attributes := attrs
def plain (name : String) (sup : Option ClassId) : Class where
  name := name
  kind := .ordinary
  loader := none
  accessFlags := 33
  super := sup
  interfaces := #[]
  cf := none
  fields := #[]
  methods := #[]
  instanceTypes := #[]
  staticTypes := #[]
  resolved := #[]
  callSites := []
  init := .initialized
  statics := none
  mirror := none

def pool0 : Array CpInfo := pool [(5, u "<init>"), (0, u "()V"), (1, .class_ 10), (1, u "java/lang/Object")] 113

def k0c0 : Code := { maxStack := 0, maxLocals := 1, code := object_method_1_code, exceptionTable := #[], attributes := #[] }
def k0m0 : Method := { name := "<init>", desc := "()V", sig := { parameters := [], returnType := none }, accessFlags := 1, code := some k0c0 }
/-- java/lang/Object -/
def k0 : Class := { plain "java/lang/Object" none with
  accessFlags := 33
  interfaces := #[]
  cf := some (fileOf pool0 8 #[] #[{ accessFlags := 1, nameIndex := 5, descriptorIndex := 6, attributes := #[] }] 33 0 #[] #[])
  fields := #[]
  methods := #[k0m0]
  instanceTypes := #[]
  staticTypes := #[]
  resolved := Array.replicate 124 none
  statics := none }

def pool1 : Array CpInfo := pool [(2, .class_ 4), (1, u "java/lang/Object"), (0, u "<init>"), (0, u "()V"), (0, .string 8), (0, u ""), (0, .class_ 10), (0, u "java/lang/String"), (0, .methodref 9 12), (0, .nameAndType 5 13), (0, u "([C)V"), (0, .methodref 15 16), (0, .class_ 17), (0, .nameAndType 18 19), (0, u "com/example/credence/credence/CredentialsCompletePinLaw"), (0, u "make"), (0, u "(III)Ljava/lang/String;"), (0, .class_ 21), (0, u "com/example/credence/credence/Credentials"), (0, .methodref 20 23), (0, .nameAndType 5 24), (0, u "(Ljava/lang/String;Ljava/lang/String;)V"), (0, .methodref 20 26), (0, .nameAndType 27 28), (0, u "complete"), (0, u "()Z"), (3, u "law"), (0, u "(IIIIII)Z")] 2

def k1m0 : Method := { name := "<init>", desc := "()V", sig := { parameters := [], returnType := none }, accessFlags := 1, code := none }
def k1c1 : Code := { maxStack := 4, maxLocals := 5, code := method_2_code, exceptionTable := #[], attributes := #[] }
def k1m1 : Method := { name := "make", desc := "(III)Ljava/lang/String;", sig := { parameters := [.int, .int, .int], returnType := some (.object "java/lang/String") }, accessFlags := 10, code := some k1c1 }
def k1c2 : Code := { maxStack := 4, maxLocals := 10, code := code, exceptionTable := #[], attributes := #[] }
def k1m2 : Method := { name := "law", desc := "(IIIIII)Z", sig := { parameters := [.int, .int, .int, .int, .int, .int], returnType := some .boolean }, accessFlags := 9, code := some k1c2 }
/-- com/example/credence/credence/CredentialsCompletePinLaw -/
def k1 : Class := { plain "com/example/credence/credence/CredentialsCompletePinLaw" (some 0) with
  accessFlags := 49
  interfaces := #[]
  cf := some (fileOf pool1 15 #[] #[{ accessFlags := 1, nameIndex := 5, descriptorIndex := 6, attributes := #[] }, { accessFlags := 10, nameIndex := 18, descriptorIndex := 19, attributes := #[] }, { accessFlags := 9, nameIndex := 32, descriptorIndex := 33, attributes := #[] }] 49 2 #[] #[])
  fields := #[]
  methods := #[k1m0, k1m1, k1m2]
  instanceTypes := #[]
  staticTypes := #[]
  resolved := Array.replicate 36 none
  statics := none }

def pool2 : Array CpInfo := pool [(1, .class_ 2), (0, u "java/io/Serializable"), (0, .class_ 4), (0, u "java/lang/Object")] 2

/-- java/io/Serializable -/
def k2 : Class := { plain "java/io/Serializable" (some 0) with
  accessFlags := 1537
  interfaces := #[]
  cf := some (fileOf pool2 1 #[] #[] 1537 3 #[] #[])
  fields := #[]
  methods := #[]
  instanceTypes := #[]
  staticTypes := #[]
  resolved := Array.replicate 7 none
  statics := none }

def pool3 : Array CpInfo := pool [(1, .class_ 2), (0, u "java/lang/Comparable"), (0, .class_ 4), (0, u "java/lang/Object")] 7

/-- java/lang/Comparable -/
def k3 : Class := { plain "java/lang/Comparable" (some 0) with
  accessFlags := 1537
  interfaces := #[]
  cf := some (fileOf pool3 1 #[] #[] 1537 3 #[] #[])
  fields := #[]
  methods := #[]
  instanceTypes := #[]
  staticTypes := #[]
  resolved := Array.replicate 12 none
  statics := none }

def pool4 : Array CpInfo := pool [(2, .class_ 4), (1, u "java/lang/CharSequence"), (42, .class_ 48), (0, u "java/lang/CharSequence$1CodePointIterator"), (10, .class_ 60), (0, u "java/lang/CharSequence$1CharIterator"), (5, .class_ 67), (0, u "java/lang/Object")] 63

/-- java/lang/CharSequence -/
def k4 : Class := { plain "java/lang/CharSequence" (some 0) with
  accessFlags := 1537
  interfaces := #[]
  cf := some (fileOf pool4 2 #[.nestMembers #[47, 59]] #[] 1537 66 #[] #[])
  fields := #[]
  methods := #[]
  instanceTypes := #[]
  staticTypes := #[]
  resolved := Array.replicate 131 none
  statics := none }

def pool5 : Array CpInfo := pool [(1, .class_ 2), (0, u "java/lang/constant/Constable"), (0, .class_ 4), (0, u "java/lang/Object")] 6

/-- java/lang/constant/Constable -/
def k5 : Class := { plain "java/lang/constant/Constable" (some 0) with
  accessFlags := 1537
  interfaces := #[]
  cf := some (fileOf pool5 1 #[] #[] 1537 3 #[] #[])
  fields := #[]
  methods := #[]
  instanceTypes := #[]
  staticTypes := #[]
  resolved := Array.replicate 11 none
  statics := none }

def pool6 : Array CpInfo := pool [(1, .class_ 2), (0, u "java/lang/constant/ConstantDesc"), (0, .class_ 4), (0, u "java/lang/Object")] 32

/-- java/lang/constant/ConstantDesc -/
def k6 : Class := { plain "java/lang/constant/ConstantDesc" (some 0) with
  accessFlags := 1537
  interfaces := #[]
  cf := some (fileOf pool6 1 #[] #[] 1537 3 #[] #[])
  fields := #[]
  methods := #[]
  instanceTypes := #[]
  staticTypes := #[]
  resolved := Array.replicate 37 none
  statics := none }

def pool7 : Array CpInfo := pool [(1, .methodref 2 3), (0, .class_ 4), (0, .nameAndType 5 6), (0, u "java/lang/Object"), (0, u "<init>"), (0, u "()V"), (2, .fieldref 10 11), (0, .class_ 12), (0, .nameAndType 13 14), (0, u "java/lang/String"), (0, u "value"), (0, u "[B"), (0, .fieldref 10 16), (0, .nameAndType 17 18), (0, u "coder"), (0, u "B"), (2, u "hash"), (0, u "I"), (2, u "hashIsZero"), (0, u "Z"), (0, .methodref 10 28), (0, .nameAndType 5 29), (0, u "([CIILjava/lang/Void;)V"), (8, .fieldref 10 39), (0, .nameAndType 40 26), (0, u "COMPACT_STRINGS"), (1, .class_ 44), (1, u "java/lang/StringUTF16"), (0, u "compress"), (1, .methodref 42 48), (0, .nameAndType 49 50), (0, u "coderFromArrayLen"), (0, u "([BI)B"), (91, u "()Z"), (34, .methodref 42 178), (0, .nameAndType 45 179), (0, u "([CII)[B"), (395, .class_ 576), (0, u "java/lang/CharSequence"), (22, u "CASE_INSENSITIVE_ORDER"), (0, u "Ljava/util/Comparator;"), (91, u "isEmpty"), (317, u "([C)V"), (90, u "serialPersistentFields"), (0, u "[Ljava/io/ObjectStreamField;"), (0, .class_ 1104), (0, u "java/lang/String$CaseInsensitiveComparator"), (1, .class_ 1107), (0, u "java/io/Serializable"), (0, .class_ 1109), (0, u "java/lang/Comparable"), (0, .class_ 1111), (0, u "java/lang/constant/Constable"), (0, .class_ 1113), (0, u "java/lang/constant/ConstantDesc"), (2, u "serialVersionUID"), (0, u "J"), (3, u "REPL"), (0, u "C"), (2, u "LATIN1"), (1, u "UTF16")] 323

def k7m0 : Method := { name := "<init>", desc := "()V", sig := { parameters := [], returnType := none }, accessFlags := 1, code := none }
def k7c1 : Code := { maxStack := 5, maxLocals := 2, code := jdk_42_method_3_code, exceptionTable := #[], attributes := #[] }
def k7m1 : Method := { name := "<init>", desc := "([C)V", sig := { parameters := [(.array .char)], returnType := none }, accessFlags := 1, code := some k7c1 }
def k7c2 : Code := { maxStack := 1, maxLocals := 1, code := jdk_42_method_55_code, exceptionTable := #[], attributes := #[] }
def k7m2 : Method := { name := "isEmpty", desc := "()Z", sig := { parameters := [], returnType := some .boolean }, accessFlags := 1, code := some k7c2 }
def k7c3 : Code := { maxStack := 4, maxLocals := 6, code := jdk_42_method_149_code, exceptionTable := #[], attributes := #[] }
def k7m3 : Method := { name := "<init>", desc := "([CIILjava/lang/Void;)V", sig := { parameters := [(.array .char), .int, .int, (.object "java/lang/Void")], returnType := none }, accessFlags := 2, code := some k7c3 }
/-- java/lang/String -/
def k7 : Class := { plain "java/lang/String" (some 0) with
  accessFlags := 49
  interfaces := #[2, 3, 4, 5, 6]
  cf := some (fileOf pool7 10 #[.nestMembers #[1103]] #[{ accessFlags := 1, nameIndex := 5, descriptorIndex := 6, attributes := #[] }, { accessFlags := 1, nameIndex := 5, descriptorIndex := 1010, attributes := #[] }, { accessFlags := 1, nameIndex := 692, descriptorIndex := 142, attributes := #[] }, { accessFlags := 2, nameIndex := 5, descriptorIndex := 29, attributes := #[] }] 49 2 #[1106, 1108, 575, 1110, 1112] #[{ accessFlags := 18, nameIndex := 13, descriptorIndex := 14, attributes := #[] }, { accessFlags := 18, nameIndex := 17, descriptorIndex := 18, attributes := #[] }, { accessFlags := 2, nameIndex := 21, descriptorIndex := 22, attributes := #[] }, { accessFlags := 2, nameIndex := 25, descriptorIndex := 26, attributes := #[] }, { accessFlags := 26, nameIndex := 1116, descriptorIndex := 1117, attributes := #[] }, { accessFlags := 24, nameIndex := 40, descriptorIndex := 26, attributes := #[] }, { accessFlags := 26, nameIndex := 1101, descriptorIndex := 1102, attributes := #[] }, { accessFlags := 26, nameIndex := 1121, descriptorIndex := 1122, attributes := #[] }, { accessFlags := 25, nameIndex := 599, descriptorIndex := 600, attributes := #[] }, { accessFlags := 24, nameIndex := 1125, descriptorIndex := 18, attributes := #[] }, { accessFlags := 24, nameIndex := 1127, descriptorIndex := 18, attributes := #[] }])
  fields := #[{ name := "value", type := (.array .byte), accessFlags := 18, slot := 0, constantValue := 0 }, { name := "coder", type := .byte, accessFlags := 18, slot := 1, constantValue := 0 }, { name := "hash", type := .int, accessFlags := 2, slot := 2, constantValue := 0 }, { name := "hashIsZero", type := .boolean, accessFlags := 2, slot := 3, constantValue := 0 }, { name := "serialVersionUID", type := .long, accessFlags := 26, slot := 0, constantValue := 0 }, { name := "COMPACT_STRINGS", type := .boolean, accessFlags := 24, slot := 1, constantValue := 0 }, { name := "serialPersistentFields", type := (.array (.object "java/io/ObjectStreamField")), accessFlags := 26, slot := 2, constantValue := 0 }, { name := "REPL", type := .char, accessFlags := 26, slot := 3, constantValue := 0 }, { name := "CASE_INSENSITIVE_ORDER", type := (.object "java/util/Comparator"), accessFlags := 25, slot := 4, constantValue := 0 }, { name := "LATIN1", type := .byte, accessFlags := 24, slot := 5, constantValue := 0 }, { name := "UTF16", type := .byte, accessFlags := 24, slot := 6, constantValue := 0 }]
  methods := #[k7m0, k7m1, k7m2, k7m3]
  instanceTypes := #[(.array .byte), .byte, .int, .boolean]
  staticTypes := #[.long, .boolean, (.array (.object "java/io/ObjectStreamField")), .char, (.object "java/util/Comparator"), .byte, .byte]
  resolved := Array.replicate 1451 none
  statics := some 0 }

def pool8 : Array CpInfo := pool [(6, .class_ 8), (1, u "java/lang/Object"), (0, u "<init>"), (0, u "()V"), (1, .class_ 14), (1, u "java/lang/StringUTF16"), (31, u "$assertionsDisabled"), (0, u "Z"), (13, u "HI_BYTE_SHIFT"), (0, u "I"), (2, u "LO_BYTE_SHIFT"), (49, .methodref 12 116), (0, .nameAndType 117 118), (0, u "compress"), (0, u "([CI[BII)I"), (3, u "([CII)[B"), (138, u "coderFromArrayLen"), (0, u "([BI)B"), (106, .class_ 371), (1, u "java/lang/StringUTF16$LinesSpliterator"), (58, u "MAX_LENGTH"), (196, .class_ 628), (0, u "java/lang/StringUTF16$CodePointsSpliterator"), (0, .class_ 630), (0, u "java/lang/StringUTF16$CharsSpliterator")] 4

def k8m0 : Method := { name := "<init>", desc := "()V", sig := { parameters := [], returnType := none }, accessFlags := 0, code := none }
def k8c1 : Code := { maxStack := 2, maxLocals := 2, code := jdk_52_method_15_code, exceptionTable := #[], attributes := #[] }
def k8m1 : Method := { name := "coderFromArrayLen", desc := "([BI)B", sig := { parameters := [(.array .byte), .int], returnType := some .byte }, accessFlags := 8, code := some k8c1 }
def k8c2 : Code := { maxStack := 5, maxLocals := 6, code := jdk_52_method_16_code, exceptionTable := #[], attributes := #[] }
def k8m2 : Method := { name := "compress", desc := "([CII)[B", sig := { parameters := [(.array .char), .int, .int], returnType := some (.array .byte) }, accessFlags := 9, code := some k8c2 }
def k8c3 : Code := { maxStack := 3, maxLocals := 7, code := jdk_52_method_21_code, exceptionTable := #[], attributes := #[] }
def k8m3 : Method := { name := "compress", desc := "([CI[BII)I", sig := { parameters := [(.array .char), .int, (.array .byte), .int, .int], returnType := some .int }, accessFlags := 9, code := some k8c3 }
/-- java/lang/StringUTF16 -/
def k8 : Class := { plain "java/lang/StringUTF16" (some 0) with
  accessFlags := 48
  interfaces := #[]
  cf := some (fileOf pool8 12 #[.nestMembers #[627, 629, 369]] #[{ accessFlags := 0, nameIndex := 9, descriptorIndex := 10, attributes := #[] }, { accessFlags := 8, nameIndex := 261, descriptorIndex := 262, attributes := #[] }, { accessFlags := 9, nameIndex := 117, descriptorIndex := 122, attributes := #[] }, { accessFlags := 9, nameIndex := 117, descriptorIndex := 118, attributes := #[] }] 48 6 #[] #[{ accessFlags := 26, nameIndex := 61, descriptorIndex := 62, attributes := #[] }, { accessFlags := 26, nameIndex := 65, descriptorIndex := 62, attributes := #[] }, { accessFlags := 24, nameIndex := 430, descriptorIndex := 62, attributes := #[] }, { accessFlags := 4120, nameIndex := 46, descriptorIndex := 47, attributes := #[] }])
  fields := #[{ name := "HI_BYTE_SHIFT", type := .int, accessFlags := 26, slot := 0, constantValue := 0 }, { name := "LO_BYTE_SHIFT", type := .int, accessFlags := 26, slot := 1, constantValue := 0 }, { name := "MAX_LENGTH", type := .int, accessFlags := 24, slot := 2, constantValue := 0 }, { name := "$assertionsDisabled", type := .boolean, accessFlags := 4120, slot := 3, constantValue := 0 }]
  methods := #[k8m0, k8m1, k8m2, k8m3]
  instanceTypes := #[]
  staticTypes := #[.int, .int, .int, .boolean]
  resolved := Array.replicate 635 none
  statics := none }

def pool9 : Array CpInfo := pool [(1, .methodref 2 3), (0, .class_ 4), (0, .nameAndType 5 6), (0, u "java/lang/Object"), (0, u "<init>"), (0, u "()V"), (0, .class_ 8), (0, u "java/lang/Record")] 13

def k9c0 : Code := { maxStack := 1, maxLocals := 1, code := jdk_30_method_1_code, exceptionTable := #[], attributes := #[] }
def k9m0 : Method := { name := "<init>", desc := "()V", sig := { parameters := [], returnType := none }, accessFlags := 4, code := some k9c0 }
/-- java/lang/Record -/
def k9 : Class := { plain "java/lang/Record" (some 0) with
  accessFlags := 1057
  interfaces := #[]
  cf := some (fileOf pool9 7 #[] #[{ accessFlags := 4, nameIndex := 5, descriptorIndex := 6, attributes := #[] }] 1057 2 #[] #[])
  fields := #[]
  methods := #[k9m0]
  instanceTypes := #[]
  staticTypes := #[]
  resolved := Array.replicate 22 none
  statics := none }

def pool10 : Array CpInfo := pool [(1, .methodref 2 3), (0, .class_ 4), (0, .nameAndType 5 6), (0, u "java/lang/Record"), (0, u "<init>"), (0, u "()V"), (0, .fieldref 8 9), (0, .class_ 10), (0, .nameAndType 11 12), (0, u "com/example/credence/credence/Credentials"), (0, u "username"), (0, u "Ljava/lang/String;"), (0, .fieldref 8 14), (0, .nameAndType 15 12), (0, u "password"), (0, .methodref 17 18), (0, .class_ 19), (0, .nameAndType 20 21), (0, u "java/lang/String"), (0, u "isEmpty"), (0, u "()Z"), (12, u "(Ljava/lang/String;Ljava/lang/String;)V"), (3, u "complete")] 35

def k10c0 : Code := { maxStack := 2, maxLocals := 3, code := prog_3_method_1_code, exceptionTable := #[], attributes := #[] }
def k10m0 : Method := { name := "<init>", desc := "(Ljava/lang/String;Ljava/lang/String;)V", sig := { parameters := [(.object "java/lang/String"), (.object "java/lang/String")], returnType := none }, accessFlags := 1, code := some k10c0 }
def k10c1 : Code := { maxStack := 1, maxLocals := 1, code := prog_3_method_2_code, exceptionTable := #[], attributes := #[] }
def k10m1 : Method := { name := "complete", desc := "()Z", sig := { parameters := [], returnType := some .boolean }, accessFlags := 0, code := some k10c1 }
/-- com/example/credence/credence/Credentials -/
def k10 : Class := { plain "com/example/credence/credence/Credentials" (some 9) with
  accessFlags := 49
  interfaces := #[]
  cf := some (fileOf pool10 8 #[] #[{ accessFlags := 1, nameIndex := 5, descriptorIndex := 34, attributes := #[] }, { accessFlags := 0, nameIndex := 38, descriptorIndex := 21, attributes := #[] }] 49 2 #[] #[{ accessFlags := 18, nameIndex := 11, descriptorIndex := 12, attributes := #[] }, { accessFlags := 18, nameIndex := 15, descriptorIndex := 12, attributes := #[] }])
  fields := #[{ name := "username", type := (.object "java/lang/String"), accessFlags := 18, slot := 0, constantValue := 0 }, { name := "password", type := (.object "java/lang/String"), accessFlags := 18, slot := 1, constantValue := 0 }]
  methods := #[k10m0, k10m1]
  instanceTypes := #[(.object "java/lang/String"), (.object "java/lang/String")]
  staticTypes := #[]
  resolved := Array.replicate 74 none
  statics := none }

def pool11 : Array CpInfo := pool [(4, .class_ 6), (1, u "java/lang/Object"), (0, u "<init>"), (0, u "()V"), (5, .class_ 16), (1, u "java/lang/StringLatin1"), (104, u "$assertionsDisabled"), (0, u "Z"), (98, .class_ 223), (1, u "java/lang/StringLatin1$LinesSpliterator"), (166, .class_ 391), (0, u "java/lang/StringLatin1$CharsSpliterator")] 3

def k11m0 : Method := { name := "<init>", desc := "()V", sig := { parameters := [], returnType := none }, accessFlags := 0, code := none }
/-- java/lang/StringLatin1 -/
def k11 : Class := { plain "java/lang/StringLatin1" (some 0) with
  accessFlags := 48
  interfaces := #[]
  cf := some (fileOf pool11 14 #[.nestMembers #[390, 221]] #[{ accessFlags := 0, nameIndex := 7, descriptorIndex := 8, attributes := #[] }] 48 4 #[] #[{ accessFlags := 4120, nameIndex := 121, descriptorIndex := 122, attributes := #[] }])
  fields := #[{ name := "$assertionsDisabled", type := .boolean, accessFlags := 4120, slot := 0, constantValue := 0 }]
  methods := #[k11m0]
  instanceTypes := #[]
  staticTypes := #[.boolean]
  resolved := Array.replicate 395 none
  statics := none }

def pool12 : Array CpInfo := pool [(2, .class_ 4), (1, u "java/lang/Object"), (0, u "<init>"), (0, u "()V"), (17, .class_ 26), (1, u "jdk/internal/util/Preconditions"), (28, .class_ 56), (0, u "jdk/internal/util/Preconditions$4"), (57, .class_ 115), (0, u "jdk/internal/util/Preconditions$1"), (7, u "SIOOBE_FORMATTER"), (0, u "Ljava/util/function/BiFunction;"), (0, .class_ 126), (0, u "jdk/internal/util/Preconditions$2"), (3, u "AIOOBE_FORMATTER"), (0, .class_ 132), (0, u "jdk/internal/util/Preconditions$3"), (3, u "IOOBE_FORMATTER")] 57

def k12m0 : Method := { name := "<init>", desc := "()V", sig := { parameters := [], returnType := none }, accessFlags := 1, code := none }
/-- jdk/internal/util/Preconditions -/
def k12 : Class := { plain "jdk/internal/util/Preconditions" (some 0) with
  accessFlags := 33
  interfaces := #[]
  cf := some (fileOf pool12 24 #[.nestMembers #[55, 131, 125, 114]] #[{ accessFlags := 1, nameIndex := 5, descriptorIndex := 6, attributes := #[] }] 33 2 #[] #[{ accessFlags := 25, nameIndex := 123, descriptorIndex := 124, attributes := #[] }, { accessFlags := 25, nameIndex := 130, descriptorIndex := 124, attributes := #[] }, { accessFlags := 25, nameIndex := 136, descriptorIndex := 124, attributes := #[] }])
  fields := #[{ name := "SIOOBE_FORMATTER", type := (.object "java/util/function/BiFunction"), accessFlags := 25, slot := 0, constantValue := 0 }, { name := "AIOOBE_FORMATTER", type := (.object "java/util/function/BiFunction"), accessFlags := 25, slot := 1, constantValue := 0 }, { name := "IOOBE_FORMATTER", type := (.object "java/util/function/BiFunction"), accessFlags := 25, slot := 2, constantValue := 0 }]
  methods := #[k12m0]
  instanceTypes := #[]
  staticTypes := #[(.object "java/util/function/BiFunction"), (.object "java/util/function/BiFunction"), (.object "java/util/function/BiFunction")]
  resolved := Array.replicate 194 none
  statics := some 1 }

def pool13 : Array CpInfo := pool [(9, u "<init>"), (6, .class_ 18), (1, u "java/lang/Object"), (0, u "()V"), (1, .class_ 23), (1, u "jdk/internal/util/ArraysSupport"), (0, u "LOG2_ARRAY_LONG_INDEX_SCALE"), (0, u "I"), (2, u "U"), (0, u "Ljdk/internal/misc/Unsafe;"), (8, u "BIG_ENDIAN"), (0, u "Z"), (8, u "LOG2_BYTE_BIT_SIZE"), (4, u "LOG2_ARRAY_INT_INDEX_SCALE"), (54, u "JLA"), (0, u "Ljdk/internal/access/JavaLangAccess;"), (11, u "LOG2_ARRAY_BOOLEAN_INDEX_SCALE"), (9, u "LOG2_ARRAY_BYTE_INDEX_SCALE"), (5, u "LOG2_ARRAY_CHAR_INDEX_SCALE"), (5, u "LOG2_ARRAY_SHORT_INDEX_SCALE"), (18, u "LOG2_ARRAY_FLOAT_INDEX_SCALE"), (24, u "LOG2_ARRAY_DOUBLE_INDEX_SCALE"), (89, u "T_BOOLEAN"), (2, u "T_CHAR"), (1, u "T_FLOAT"), (1, u "T_DOUBLE"), (1, u "T_BYTE"), (1, u "T_SHORT"), (1, u "T_INT"), (1, u "T_LONG"), (1, u "SOFT_MAX_ARRAY_LENGTH")] 83

def k13m0 : Method := { name := "<init>", desc := "()V", sig := { parameters := [], returnType := none }, accessFlags := 2, code := none }
/-- jdk/internal/util/ArraysSupport -/
def k13 : Class := { plain "jdk/internal/util/ArraysSupport" (some 0) with
  accessFlags := 33
  interfaces := #[]
  cf := some (fileOf pool13 21 #[] #[{ accessFlags := 2, nameIndex := 9, descriptorIndex := 19, attributes := #[] }] 33 16 #[] #[{ accessFlags := 24, nameIndex := 28, descriptorIndex := 29, attributes := #[] }, { accessFlags := 26, nameIndex := 38, descriptorIndex := 39, attributes := #[] }, { accessFlags := 25, nameIndex := 121, descriptorIndex := 25, attributes := #[] }, { accessFlags := 25, nameIndex := 131, descriptorIndex := 25, attributes := #[] }, { accessFlags := 25, nameIndex := 137, descriptorIndex := 25, attributes := #[] }, { accessFlags := 25, nameIndex := 143, descriptorIndex := 25, attributes := #[] }, { accessFlags := 25, nameIndex := 53, descriptorIndex := 25, attributes := #[] }, { accessFlags := 25, nameIndex := 24, descriptorIndex := 25, attributes := #[] }, { accessFlags := 25, nameIndex := 162, descriptorIndex := 25, attributes := #[] }, { accessFlags := 25, nameIndex := 187, descriptorIndex := 25, attributes := #[] }, { accessFlags := 26, nameIndex := 48, descriptorIndex := 25, attributes := #[] }, { accessFlags := 25, nameIndex := 277, descriptorIndex := 25, attributes := #[] }, { accessFlags := 25, nameIndex := 280, descriptorIndex := 25, attributes := #[] }, { accessFlags := 25, nameIndex := 282, descriptorIndex := 25, attributes := #[] }, { accessFlags := 25, nameIndex := 284, descriptorIndex := 25, attributes := #[] }, { accessFlags := 25, nameIndex := 286, descriptorIndex := 25, attributes := #[] }, { accessFlags := 25, nameIndex := 288, descriptorIndex := 25, attributes := #[] }, { accessFlags := 25, nameIndex := 290, descriptorIndex := 25, attributes := #[] }, { accessFlags := 25, nameIndex := 292, descriptorIndex := 25, attributes := #[] }, { accessFlags := 26, nameIndex := 108, descriptorIndex := 109, attributes := #[] }, { accessFlags := 25, nameIndex := 294, descriptorIndex := 25, attributes := #[] }])
  fields := #[{ name := "U", type := (.object "jdk/internal/misc/Unsafe"), accessFlags := 24, slot := 0, constantValue := 0 }, { name := "BIG_ENDIAN", type := .boolean, accessFlags := 26, slot := 1, constantValue := 0 }, { name := "LOG2_ARRAY_BOOLEAN_INDEX_SCALE", type := .int, accessFlags := 25, slot := 2, constantValue := 0 }, { name := "LOG2_ARRAY_BYTE_INDEX_SCALE", type := .int, accessFlags := 25, slot := 3, constantValue := 0 }, { name := "LOG2_ARRAY_CHAR_INDEX_SCALE", type := .int, accessFlags := 25, slot := 4, constantValue := 0 }, { name := "LOG2_ARRAY_SHORT_INDEX_SCALE", type := .int, accessFlags := 25, slot := 5, constantValue := 0 }, { name := "LOG2_ARRAY_INT_INDEX_SCALE", type := .int, accessFlags := 25, slot := 6, constantValue := 0 }, { name := "LOG2_ARRAY_LONG_INDEX_SCALE", type := .int, accessFlags := 25, slot := 7, constantValue := 0 }, { name := "LOG2_ARRAY_FLOAT_INDEX_SCALE", type := .int, accessFlags := 25, slot := 8, constantValue := 0 }, { name := "LOG2_ARRAY_DOUBLE_INDEX_SCALE", type := .int, accessFlags := 25, slot := 9, constantValue := 0 }, { name := "LOG2_BYTE_BIT_SIZE", type := .int, accessFlags := 26, slot := 10, constantValue := 0 }, { name := "T_BOOLEAN", type := .int, accessFlags := 25, slot := 11, constantValue := 0 }, { name := "T_CHAR", type := .int, accessFlags := 25, slot := 12, constantValue := 0 }, { name := "T_FLOAT", type := .int, accessFlags := 25, slot := 13, constantValue := 0 }, { name := "T_DOUBLE", type := .int, accessFlags := 25, slot := 14, constantValue := 0 }, { name := "T_BYTE", type := .int, accessFlags := 25, slot := 15, constantValue := 0 }, { name := "T_SHORT", type := .int, accessFlags := 25, slot := 16, constantValue := 0 }, { name := "T_INT", type := .int, accessFlags := 25, slot := 17, constantValue := 0 }, { name := "T_LONG", type := .int, accessFlags := 25, slot := 18, constantValue := 0 }, { name := "JLA", type := (.object "jdk/internal/access/JavaLangAccess"), accessFlags := 26, slot := 19, constantValue := 0 }, { name := "SOFT_MAX_ARRAY_LENGTH", type := .int, accessFlags := 25, slot := 20, constantValue := 0 }]
  methods := #[k13m0]
  instanceTypes := #[]
  staticTypes := #[(.object "jdk/internal/misc/Unsafe"), .boolean, .int, .int, .int, .int, .int, .int, .int, .int, .int, .int, .int, .int, .int, .int, .int, .int, .int, (.object "jdk/internal/access/JavaLangAccess"), .int]
  resolved := Array.replicate 378 none
  statics := none }

def pool14 : Array CpInfo := pool [(1, u "java/lang/Cloneable"), (0, .class_ 1), (0, u "java/lang/Object"), (0, .class_ 3)] 3

/-- java/lang/Cloneable -/
def k14 : Class := { plain "java/lang/Cloneable" (some 0) with
  accessFlags := 1537
  interfaces := #[]
  cf := some (fileOf pool14 2 #[] #[] 1537 4 #[] #[])
  fields := #[]
  methods := #[]
  instanceTypes := #[]
  staticTypes := #[]
  resolved := Array.replicate 8 none
  statics := none }

/-- the primitive byte -/
def k15 : Class := { plain "byte" none with kind := .primitive 'B', accessFlags := 0x411 }
/-- [B -/
def k16 : Class := { plain "[B" (some 0) with kind := .array 15 .byte, interfaces := #[14, 2], accessFlags := 1041 }

/-- the primitive char -/
def k17 : Class := { plain "char" none with kind := .primitive 'C', accessFlags := 0x411 }
/-- [C -/
def k18 : Class := { plain "[C" (some 0) with kind := .array 17 .char, interfaces := #[14, 2], accessFlags := 1041 }

/-- the primitive int -/
def k19 : Class := { plain "int" none with kind := .primitive 'I', accessFlags := 0x411 }
/-- [I -/
def k20 : Class := { plain "[I" (some 0) with kind := .array 19 .int, interfaces := #[14, 2], accessFlags := 1041 }

def heap : Heap := #[{ cls := 7, slots := #[.long 0, .int 1, .null, .int 0, .null, .int 0, .int 0], vm := .statics 7 },
  { cls := 12, slots := #[.null, .null, .null], vm := .statics 12 }]
def classes : Array Class := #[k0, k1, k2, k3, k4, k5, k6, k7, k8, k9, k10, k11, k12, k13, k14, k15, k16, k17, k18, k19, k20]
def interned : List (Array UInt16 × Addr) := []
def slotsUsed : Nat := 10
def theMethod : MethodId := ⟨1, 2⟩
def args0 : Array Value := #[.int 5, .int 7, .int 1, .int 2, .int 3, .int 3]
def aboutOver (below : List Frame) : State where
  vm := { classes := classes, interned := interned.toArray }
  heap := heap
  slotsUsed := slotsUsed
  threads := #[{ frames := .invoking theMethod args0 :: below }]
def below0 : List Frame := [.native { method := ⟨0, 0⟩, args := #[] }]
def about1 : State := aboutOver below0
def p0 : Program := .bare "" "" ""
def e0 : Env := launch0.env 0 0 0
theorem w_frames : about1.frames = Frame.invoking theMethod args0 :: below0 := rfl
set_option maxRecDepth 65536 in
theorem w_args : argsFit about1.vm theMethod args0 = true := by decide +kernel
set_option maxRecDepth 65536 in
theorem w_heap : heapFits about1 = true := by decide +kernel
set_option maxRecDepth 65536 in
theorem w_runnable : about1.curStatus? = some .runnable := by decide +kernel
set_option maxRecDepth 65536 in
theorem w_alone : about1.alone = true := by decide +kernel
set_option maxRecDepth 65536 in
theorem w_named : about1.methodNamed? x = some theMethod := by decide +kernel
set_option maxRecDepth 65536 in
theorem w_hears : about1.hears theMethod below0 = true := by decide +kernel
set_option maxRecDepth 65536 in
theorem w_ripe : about1.ripe theMethod args0 below0 = true := by decide +kernel
theorem w_running : about1.status = .running := rfl
set_option maxRecDepth 65536 in
theorem w_room : about1.hasRoom e0.platform room_1 = true :=
  launch0.hasRoom_least _ room_1 (by decide +kernel) (by decide +kernel) (by decide +kernel) (by decide +kernel) (by decide +kernel) (by decide +kernel)
theorem allAtoms_all (ts : List Jvm.Cond) (a : Array Jvm.Value) (st : Jvm.State) : (allAtoms ts).before a st = ts.all (fun c => c.before a st) := by
  induction ts with
  | nil => rfl
  | cons c t ih =>
    show (Jvm.Cond.and c (allAtoms t)).before a st = _
    rw [Jvm.Cond.before_and, ih, List.all_cons]
def words1 : List Jvm.Cond := Jvm.Cond.code x code maxLocals ret :: tables_1
/-- a 'code' word, met by the world's own term for the bytes: nothing is compared byte by byte -/
theorem code_word {y : MethodName} {bytes : ByteArray} {mx : Nat} {rt : Option FieldType} {a : Array Value} {s : State} {m : MethodId} {meth : Method} {c : Code} (h1 : s.methodNamed? y = some m) (h2 : s.vm.method? m = some meth) (h3 : meth.code = some c) (h4 : c.code = bytes)
    (h5 : (c.maxLocals == mx && c.exceptionTable.isEmpty && decide (c.maxStack ≤ mostOperands) && decide (meth.sig.returnType = rt) && !meth.locks && decide (parseMethodDescriptor y.desc = some meth.sig)) = true) : (Jvm.Cond.code y bytes mx rt).before a s = true := by
  simp only [Bool.and_eq_true, beq_iff_eq, Bool.not_eq_true', decide_eq_true_eq] at h5
  obtain ⟨⟨⟨⟨⟨g1, g2⟩, g3⟩, g4⟩, g5⟩, g6⟩ := h5
  simp [Cond.before, Cond.holds, Cond.value, h1, h2, h3, h4, g1, g2, g3, g4, g5, g6]
def isCode : Jvm.Cond → Bool
  | .code _ _ _ _ => true
  | _ => false
theorem all_split {L : List Jvm.Cond} {P : Jvm.Cond → Bool} (h1 : L.all (fun c => isCode c || P c) = true) (h2 : ∀ c ∈ L.filter isCode, P c = true) : L.all P = true := by
  refine List.all_eq_true.mpr fun c hc => ?_
  have h := List.all_eq_true.mp h1 c hc
  rcases Bool.eq_false_or_eq_true (isCode c) with hi | hi
  · exact h2 c (List.mem_filter.mpr ⟨hc, hi⟩)
  · simpa [hi] using h
set_option maxRecDepth 65536 in
theorem w_c0 : (Jvm.Cond.code x code maxLocals ret).before args0 about1 = true := code_word (m := ⟨1, 2⟩) (meth := k1m2) (c := k1c2) (by decide +kernel) rfl rfl rfl (by decide +kernel)
set_option maxRecDepth 65536 in
theorem w_c1 : (Jvm.Cond.code ({ cls := "com/example/credence/credence/CredentialsCompletePinLaw", name := "make", desc := "(III)Ljava/lang/String;" } : Jvm.MethodName) method_2_code (5 : Nat) (Option.some (Jvm.ClassFile.FieldType.object "java/lang/String"))).before args0 about1 = true := code_word (m := ⟨1, 1⟩) (meth := k1m1) (c := k1c1) (by decide +kernel) rfl rfl rfl (by decide +kernel)
set_option maxRecDepth 65536 in
theorem w_c2 : (Jvm.Cond.code ({ cls := "java/lang/String", name := "<init>", desc := "([C)V" } : Jvm.MethodName) jdk_42_method_3_code (2 : Nat) (Option.none : Option Jvm.ClassFile.FieldType)).before args0 about1 = true := code_word (m := ⟨7, 1⟩) (meth := k7m1) (c := k7c1) (by decide +kernel) rfl rfl rfl (by decide +kernel)
set_option maxRecDepth 65536 in
theorem w_c3 : (Jvm.Cond.code ({ cls := "java/lang/String", name := "<init>", desc := "([CIILjava/lang/Void;)V" } : Jvm.MethodName) jdk_42_method_149_code (6 : Nat) (Option.none : Option Jvm.ClassFile.FieldType)).before args0 about1 = true := code_word (m := ⟨7, 3⟩) (meth := k7m3) (c := k7c3) (by decide +kernel) rfl rfl rfl (by decide +kernel)
set_option maxRecDepth 65536 in
theorem w_c4 : (Jvm.Cond.code ({ cls := "java/lang/Object", name := "<init>", desc := "()V" } : Jvm.MethodName) object_method_1_code (1 : Nat) (Option.none : Option Jvm.ClassFile.FieldType)).before args0 about1 = true := code_word (m := ⟨0, 0⟩) (meth := k0m0) (c := k0c0) (by decide +kernel) rfl rfl rfl (by decide +kernel)
set_option maxRecDepth 65536 in
theorem w_c5 : (Jvm.Cond.code ({ cls := "java/lang/StringUTF16", name := "compress", desc := "([CII)[B" } : Jvm.MethodName) jdk_52_method_16_code (6 : Nat) (Option.some (Jvm.ClassFile.FieldType.array Jvm.ClassFile.FieldType.byte))).before args0 about1 = true := code_word (m := ⟨8, 2⟩) (meth := k8m2) (c := k8c2) (by decide +kernel) rfl rfl rfl (by decide +kernel)
set_option maxRecDepth 65536 in
theorem w_c6 : (Jvm.Cond.code ({ cls := "java/lang/StringUTF16", name := "compress", desc := "([CI[BII)I" } : Jvm.MethodName) jdk_52_method_21_code (7 : Nat) (Option.some Jvm.ClassFile.FieldType.int)).before args0 about1 = true := code_word (m := ⟨8, 3⟩) (meth := k8m3) (c := k8c3) (by decide +kernel) rfl rfl rfl (by decide +kernel)
set_option maxRecDepth 65536 in
theorem w_c7 : (Jvm.Cond.code ({ cls := "java/lang/StringUTF16", name := "coderFromArrayLen", desc := "([BI)B" } : Jvm.MethodName) jdk_52_method_15_code (2 : Nat) (Option.some Jvm.ClassFile.FieldType.byte)).before args0 about1 = true := code_word (m := ⟨8, 1⟩) (meth := k8m1) (c := k8c1) (by decide +kernel) rfl rfl rfl (by decide +kernel)
set_option maxRecDepth 65536 in
theorem w_c8 : (Jvm.Cond.code ({ cls := "com/example/credence/credence/Credentials", name := "<init>", desc := "(Ljava/lang/String;Ljava/lang/String;)V" } : Jvm.MethodName) prog_3_method_1_code (3 : Nat) (Option.none : Option Jvm.ClassFile.FieldType)).before args0 about1 = true := code_word (m := ⟨10, 0⟩) (meth := k10m0) (c := k10c0) (by decide +kernel) rfl rfl rfl (by decide +kernel)
set_option maxRecDepth 65536 in
theorem w_c9 : (Jvm.Cond.code ({ cls := "java/lang/Record", name := "<init>", desc := "()V" } : Jvm.MethodName) jdk_30_method_1_code (1 : Nat) (Option.none : Option Jvm.ClassFile.FieldType)).before args0 about1 = true := code_word (m := ⟨9, 0⟩) (meth := k9m0) (c := k9c0) (by decide +kernel) rfl rfl rfl (by decide +kernel)
set_option maxRecDepth 65536 in
theorem w_c10 : (Jvm.Cond.code ({ cls := "com/example/credence/credence/Credentials", name := "complete", desc := "()Z" } : Jvm.MethodName) prog_3_method_2_code (1 : Nat) (Option.some Jvm.ClassFile.FieldType.boolean)).before args0 about1 = true := code_word (m := ⟨10, 1⟩) (meth := k10m1) (c := k10c1) (by decide +kernel) rfl rfl rfl (by decide +kernel)
set_option maxRecDepth 65536 in
theorem w_c11 : (Jvm.Cond.code ({ cls := "java/lang/String", name := "isEmpty", desc := "()Z" } : Jvm.MethodName) jdk_42_method_55_code (1 : Nat) (Option.some Jvm.ClassFile.FieldType.boolean)).before args0 about1 = true := code_word (m := ⟨7, 2⟩) (meth := k7m2) (c := k7c2) (by decide +kernel) rfl rfl rfl (by decide +kernel)
def codes1 : List Jvm.Cond := [Jvm.Cond.code x code maxLocals ret, Jvm.Cond.code ({ cls := "com/example/credence/credence/CredentialsCompletePinLaw", name := "make", desc := "(III)Ljava/lang/String;" } : Jvm.MethodName) method_2_code (5 : Nat) (Option.some (Jvm.ClassFile.FieldType.object "java/lang/String")), Jvm.Cond.code ({ cls := "java/lang/String", name := "<init>", desc := "([C)V" } : Jvm.MethodName) jdk_42_method_3_code (2 : Nat) (Option.none : Option Jvm.ClassFile.FieldType), Jvm.Cond.code ({ cls := "java/lang/String", name := "<init>", desc := "([CIILjava/lang/Void;)V" } : Jvm.MethodName) jdk_42_method_149_code (6 : Nat) (Option.none : Option Jvm.ClassFile.FieldType), Jvm.Cond.code ({ cls := "java/lang/Object", name := "<init>", desc := "()V" } : Jvm.MethodName) object_method_1_code (1 : Nat) (Option.none : Option Jvm.ClassFile.FieldType), Jvm.Cond.code ({ cls := "java/lang/StringUTF16", name := "compress", desc := "([CII)[B" } : Jvm.MethodName) jdk_52_method_16_code (6 : Nat) (Option.some (Jvm.ClassFile.FieldType.array Jvm.ClassFile.FieldType.byte)), Jvm.Cond.code ({ cls := "java/lang/StringUTF16", name := "compress", desc := "([CI[BII)I" } : Jvm.MethodName) jdk_52_method_21_code (7 : Nat) (Option.some Jvm.ClassFile.FieldType.int), Jvm.Cond.code ({ cls := "java/lang/StringUTF16", name := "coderFromArrayLen", desc := "([BI)B" } : Jvm.MethodName) jdk_52_method_15_code (2 : Nat) (Option.some Jvm.ClassFile.FieldType.byte), Jvm.Cond.code ({ cls := "com/example/credence/credence/Credentials", name := "<init>", desc := "(Ljava/lang/String;Ljava/lang/String;)V" } : Jvm.MethodName) prog_3_method_1_code (3 : Nat) (Option.none : Option Jvm.ClassFile.FieldType), Jvm.Cond.code ({ cls := "java/lang/Record", name := "<init>", desc := "()V" } : Jvm.MethodName) jdk_30_method_1_code (1 : Nat) (Option.none : Option Jvm.ClassFile.FieldType), Jvm.Cond.code ({ cls := "com/example/credence/credence/Credentials", name := "complete", desc := "()Z" } : Jvm.MethodName) prog_3_method_2_code (1 : Nat) (Option.some Jvm.ClassFile.FieldType.boolean), Jvm.Cond.code ({ cls := "java/lang/String", name := "isEmpty", desc := "()Z" } : Jvm.MethodName) jdk_42_method_55_code (1 : Nat) (Option.some Jvm.ClassFile.FieldType.boolean)]
set_option maxRecDepth 65536 in
theorem codes_eq : words1.filter isCode = codes1 := rfl
theorem w_codes : ∀ c ∈ words1.filter isCode, c.before args0 about1 = true := by
  rw [codes_eq]
  intro c hc
  simp only [codes1, List.mem_cons, List.not_mem_nil, or_false] at hc
  rcases hc with rfl | rfl | rfl | rfl | rfl | rfl | rfl | rfl | rfl | rfl | rfl | rfl
  · exact w_c0
  · exact w_c1
  · exact w_c2
  · exact w_c3
  · exact w_c4
  · exact w_c5
  · exact w_c6
  · exact w_c7
  · exact w_c8
  · exact w_c9
  · exact w_c10
  · exact w_c11
set_option maxRecDepth 65536 in
theorem w_t1 : (words1.take 24).all (fun c => isCode c || c.before args0 about1) = true := by decide +kernel
set_option maxRecDepth 65536 in
theorem w_t2 : ((words1.drop 24).take 24).all (fun c => isCode c || c.before args0 about1) = true := by decide +kernel
set_option maxRecDepth 65536 in
theorem w_t3 : ((words1.drop 24).drop 24).all (fun c => isCode c || c.before args0 about1) = true := by decide +kernel
theorem w_tables : (allAtoms (Jvm.Cond.code x code maxLocals ret :: tables_1)).before args0 about1 = true := by
  rw [allAtoms_all]
  show words1.all (fun c => c.before args0 about1) = true
  refine all_split ?_ w_codes
  rw [← List.take_append_drop 24 words1, List.all_append, w_t1, ← List.take_append_drop 24 (words1.drop 24), List.all_append, w_t2, w_t3]
  rfl
set_option maxRecDepth 65536 in
theorem w_rest : rest_1_c.before args0 about1 = true := by decide +kernel
set_option maxRecDepth 65536 in
theorem w_case : (Jvm.Cond.and given_1 narrow_1).before args0 about1 = true := by decide +kernel
set_option maxRecDepth 65536 in
theorem w_consts : constsHeld consts_1 about1 := Jvm.Lit.constsHeldB_iff.mp (by decide +kernel)
theorem w_applies : (headSpec (Jvm.Cond.code x code maxLocals ret :: tables_1) room_1).applies x e0.platform about1 = true :=
  (Spec.applies_iff w_frames).mpr ⟨w_running, w_runnable, w_alone, w_named, w_hears, w_ripe, w_room, w_tables⟩
theorem atStart : AtStart classFile x code maxLocals ret World_1 tables_1 room_1 Calls_1 rest_1 Pre_1 launch0 p0 e0 about1 theMethod args0 below0 :=
  ⟨lists_1, trivial, launch0.admits_env _ _ _, launch0.least_env, fairChoices_fair.cas, fairChoices_fair.clock, w_frames, w_args, w_heap, w_applies, ⟨w_consts, trivial⟩, w_rest, w_case⟩
end start1
theorem witness_1 : WitnessClaimed_1 := ⟨start1.p0, start1.e0, start1.about1, start1.theMethod, start1.args0, start1.below0, start1.atStart⟩
end Jvm.Pilot.@@N@@
