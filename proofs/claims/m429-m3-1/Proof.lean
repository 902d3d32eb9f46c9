import JvmDerived
import JvmDerived.Pilot.@@N@@Statement
import JvmDerived.Pilot.@@N@@Code
set_option linter.unusedVariables false
set_option linter.unusedSimpArgs false
/- laws to paste: Road.backV, Road.empW, Road.codOf (cut by pick.py; bodies as the Statement names them) -/
namespace Jvm.Pilot.@@N@@
namespace StrChars
open Jvm Sem ClassFile Op Lib Jvm.Stand Jvm.Free.XT Jvm.Free.ALB Jvm.Free.JM Jvm.Free
open Jvm.Lib.Cold (StaticIs)
/-- a char array whose places are chars -/
def Ch (a : Addr) (A : Cell) (U : State) : Prop := Arr .char a A U ∧ Typed .char A
theorem Ch.mv {a : Addr} {A : Cell} {U U' : State} (h : Ch a A U) (hal : U.vm.Alike U'.vm) (hh : U'.heap = U.heap) : Ch a A U' := ⟨h.1.mv hal hh, h.2⟩
theorem Ch.keep {a : Addr} {A : Cell} {U U' : State} (h : Ch a A U) (hal : U.vm.Alike U'.vm) (hk : U'.heap[a]? = some A) : Ch a A U' := ⟨h.1.keep hal hk, h.2⟩
/-- what place i of a char[]'s cell holds -/
def cv (A : Cell) (i : Nat) : Int32 := match A.slots[i]? with | some (.int x) => x | _ => 0
theorem Ch.get {a : Addr} {A : Cell} {U : State} (h : Ch a A U) {i : Nat} (hi : i < A.slots.size) : A.slots[i]? = some (.int (cv A i)) := by
  have e := Array.getElem?_eq_getElem hi
  have f := h.2 i _ e
  unfold cv; rw [e]
  generalize A.slots[i] = v at f
  cases v <;> simp [fits] at f ⊢
/-- the byte that i2b leaves of a char -/
def lo8 (x : Int32) : Int32 := x.toInt8.toInt32
theorem fits_lo8 (y : Int32) : fits .byte (.int (lo8 y)) = true := by
  have h1 := y.toInt8.le_toInt
  have h2 := y.toInt8.toInt_lt
  simp only [lo8, fits, Bool.and_eq_true, decide_eq_true_eq, Int32.le_iff_toInt_le, Int8.toInt_toInt32, show (-128 : Int32).toInt = -128 from by decide, show (127 : Int32).toInt = 127 from by decide]
  omega
/-- A' is A but that each place j of lo .. hi - 1 holds f j -/
def Laid (A A' : Cell) (lo hi : Nat) (f : Nat → Value) : Prop := A'.cls = A.cls ∧ A'.vm = A.vm ∧ A'.slots.size = A.slots.size ∧ ∀ i, A'.slots[i]? = if lo ≤ i ∧ i < hi then some (f i) else A.slots[i]?
theorem Laid.zero (A : Cell) (lo : Nat) (f : Nat → Value) : Laid A A lo (lo + 0) f := ⟨rfl, rfl, rfl, fun i => by rw [if_neg (by omega)]⟩
theorem Laid.step {A Ak : Cell} {lo k : Nat} {f : Nat → Value} {v : Value} (h : Laid A Ak lo k f) (hlo : lo ≤ k) (hk : k < Ak.slots.size) (hv : v = f k) : Laid A (Ak.setSlot k v) lo (k + 1) f := by
  refine ⟨h.1, h.2.1, by simpa [Cell.setSlot] using h.2.2.1, fun i => ?_⟩
  by_cases e : k = i
  · subst e; rw [Cell.slots_setSlot_self v hk, if_pos (by omega), hv]
  · rw [Cell.slots_setSlot_ne v e, h.2.2.2 i]
    by_cases q : lo ≤ i ∧ i < k
    · rw [if_pos q, if_pos (by omega)]
    · rw [if_neg q, if_neg (by omega)]
def U16 : String := "java/lang/StringUTF16"
namespace Cmp5
def yN : MethodName := ⟨"java/lang/StringUTF16", "compress", "([CI[BII)I"⟩
abbrev yB : ByteArray := jdk_52_method_21_code
theorem d0 : decode yB 0 = .ok (.iconst 0, 1) := by decide +kernel
theorem d1 : decode yB 1 = .ok (.istore 5, 2) := by decide +kernel
theorem d3 : decode yB 3 = .ok (.iload 5, 2) := by decide +kernel
theorem d5 : decode yB 5 = .ok (.iload 4, 2) := by decide +kernel
theorem d7 : decode yB 7 = .ok (.if_icmp (.ge) 37, 3) := by decide +kernel
theorem d10 : decode yB 10 = .ok (.aload_n 0, 1) := by decide +kernel
theorem d11 : decode yB 11 = .ok (.iload_n 1, 1) := by decide +kernel
theorem d12 : decode yB 12 = .ok (.caload, 1) := by decide +kernel
theorem d13 : decode yB 13 = .ok (.istore 6, 2) := by decide +kernel
theorem d15 : decode yB 15 = .ok (.iload 6, 2) := by decide +kernel
theorem d17 : decode yB 17 = .ok (.sipush 255, 3) := by decide +kernel
theorem d20 : decode yB 20 = .ok (.if_icmp (.le) 6, 3) := by decide +kernel
theorem d26 : decode yB 26 = .ok (.aload_n 2, 1) := by decide +kernel
theorem d27 : decode yB 27 = .ok (.iload_n 3, 1) := by decide +kernel
theorem d28 : decode yB 28 = .ok (.iload 6, 2) := by decide +kernel
theorem d30 : decode yB 30 = .ok (.i2b, 1) := by decide +kernel
theorem d31 : decode yB 31 = .ok (.bastore, 1) := by decide +kernel
theorem d32 : decode yB 32 = .ok (.iinc 1 1, 3) := by decide +kernel
theorem d35 : decode yB 35 = .ok (.iinc 3 1, 3) := by decide +kernel
theorem d38 : decode yB 38 = .ok (.iinc 5 1, 3) := by decide +kernel
theorem d41 : decode yB 41 = .ok (.goto (-38), 3) := by decide +kernel
theorem d44 : decode yB 44 = .ok (.iload 4, 2) := by decide +kernel
theorem d46 : decode yB 46 = .ok (.ireturn, 1) := by decide +kernel
def site : List Cond := []
def tab : Cond := tabOf yN yB 7 (some .int) site
def P (b : Addr) (A : Cell) (d : Addr) (B : Cell) (o q len : Nat) (args : Array Value) (s : State) : Prop := args = #[.ref b, .int (Int32.ofNat o), .ref d, .int (Int32.ofNat q), .int (Int32.ofNat len)] ∧ Ch b A s ∧ Arr .byte d B s ∧ b ≠ d ∧ o + len ≤ A.slots.size ∧ q + len ≤ B.slots.size ∧ ∀ i, i < len → ¬ 255 < cv A (o + i)
def E (b : Addr) (A : Cell) (d : Addr) (B : Cell) (o q len : Nat) (r : Option Value) (s u : State) : Prop := r = some (.int (Int32.ofNat len)) ∧ ∃ B', Put d B' s u ∧ Laid B B' q (q + len) (fun j => Value.int (lo8 (cv A (o + (j - q)))))
/-- no char of the range above 255: len; the places written hold each char's low byte -/
theorem law (l : Launch) (b : Addr) (A : Cell) (d : Addr) (B : Cell) (o q len : Nat) : Law l yN 5 5 0 0 yB 7 (some .int) site (P b A d B o q len) (E b A d B o q len) (copyLocs d q len) 0 0 := by
  refine Law.of_walk (plainFor_of_name (by decide +kernel)) (by decide +kernel) (by decide +kernel) (by decide) (fun _ _ h => by rw [h.1]; rfl) (fun _ U U' hal hh h => ⟨h.1, h.2.1.mv hal hh, h.2.2.1.mv hal hh, h.2.2.2⟩) (fun r U U' V V' h1 hal h2 h => ⟨h.1, h.2.elim fun B' q => ⟨B', q.1.mv h1 h2, q.2⟩⟩) ?_
  intro p e s m args below meth c s₁ X0 hexec hbytes hml hret hlk hnm hown hh0 W hP
  obtain ⟨rfl, hA, hB, hne, l1, l2, hp⟩ := hP
  have c1 : Steps p.tables e below (s₁.setTop (entryFrame m #[.ref b, .int (Int32.ofNat o), .ref d, .int (Int32.ofNat q), .int (Int32.ofNat len)] 7)) (s₁.setTop (mkF m 0 #[.val (.ref b), .val (.int (Int32.ofNat o)), .val (.ref d), .val (.int (Int32.ofNat q)), .val (.int (Int32.ofNat len)), .unset, .unset] [])) := entry rfl
  have hA0 := hA.1.mv X0.warmed.alike hh0
  have hB0 := hB.mv X0.warmed.alike hh0
  have a31 := hA.1.2.2.2
  have c2 : Steps p.tables e below (s₁.setTop (entryFrame m #[.ref b, .int (Int32.ofNat o), .ref d, .int (Int32.ofNat q), .int (Int32.ofNat len)] 7)) (s₁.setTop (mkF m 3 #[.val (.ref b), .val (.int (Int32.ofNat o)), .val (.ref d), .val (.int (Int32.ofNat q)), .val (.int (Int32.ofNat len)), .val (.int 0), .unset] [])) := c1.trans (by
    refine iconstV X0.here hexec rfl 0 (hb hbytes d0) (by decide) ?_
    refine XS.istore X0.here hexec rfl (hb hbytes d1) rfl rfl ?_
    exact Steps.refl _)
  have loop : ∀ (r i : Nat), i + r = len → ∀ (z : Slot), (z = .unset ∨ ∃ w, z = .val w ∧ w.category = 1) → ∀ (Tl : State) (Bk : Cell), Stand p l e { frames := 0, locals := 0, cells := 0, slots := 0 } s m #[.ref b, .int (Int32.ofNat o), .ref d, .int (Int32.ofNat q), .int (Int32.ofNat len)] below meth c Tl ([] ++ copyLocs d q i) 0 0 → Put d Bk s₁ Tl → Laid B Bk q (q + i) (fun j => Value.int (lo8 (cv A (o + (j - q))))) →
      Steps p.tables e below (s₁.setTop (entryFrame m #[.ref b, .int (Int32.ofNat o), .ref d, .int (Int32.ofNat q), .int (Int32.ofNat len)] 7)) (Tl.setTop (mkF m 3 #[.val (.ref b), .val (.int (Int32.ofNat (o + i))), .val (.ref d), .val (.int (Int32.ofNat (q + i))), .val (.int (Int32.ofNat len)), .val (.int (Int32.ofNat i)), z] [])) → ∃ (T' : State) (B' : Cell) (z' : Slot), Stand p l e { frames := 0, locals := 0, cells := 0, slots := 0 } s m #[.ref b, .int (Int32.ofNat o), .ref d, .int (Int32.ofNat q), .int (Int32.ofNat len)] below meth c T' ([] ++ copyLocs d q len) 0 0 ∧ Put d B' s₁ T' ∧ Laid B B' q (q + len) (fun j => Value.int (lo8 (cv A (o + (j - q))))) ∧
      Steps p.tables e below (s₁.setTop (entryFrame m #[.ref b, .int (Int32.ofNat o), .ref d, .int (Int32.ofNat q), .int (Int32.ofNat len)] 7)) (T'.setTop (mkF m 3 #[.val (.ref b), .val (.int (Int32.ofNat (o + len))), .val (.ref d), .val (.int (Int32.ofNat (q + len))), .val (.int (Int32.ofNat len)), .val (.int (Int32.ofNat len)), z'] [])) := by
    intro r
    induction r with
    | zero =>
      intro i hi z hz Tl Bk Xl pl fl cl
      have hil : i = len := by omega
      rw [hil] at Xl fl cl
      exact ⟨Tl, Bk, z, Xl, pl, fl, cl⟩
    | succ r ih =>
      intro i hi z hz Tl Bk Xl pl fl cl
      have all := X0.warmed.alike.symm.trans Xl.warmed.alike
      have hAl := hA0.keep all (pl.other hne hA0.1)
      have hBk := hB0.like all pl.1 fl.1 fl.2.1 fl.2.2.1
      have hlt : q + i < Bk.slots.size := by rw [fl.2.2.1]; omega
      have c3 : Steps p.tables e below (s₁.setTop (entryFrame m #[.ref b, .int (Int32.ofNat o), .ref d, .int (Int32.ofNat q), .int (Int32.ofNat len)] 7)) (Tl.setTop (mkF m 12 #[.val (.ref b), .val (.int (Int32.ofNat (o + i))), .val (.ref d), .val (.int (Int32.ofNat (q + i))), .val (.int (Int32.ofNat len)), .val (.int (Int32.ofNat i)), z] [.int (Int32.ofNat (o + i)), .ref b])) := cl.trans (by
        refine XS.iload Xl.here hexec rfl (hb hbytes d3) rfl ?_
        refine XS.iload Xl.here hexec rfl (hb hbytes d5) rfl ?_
        refine XS.icmpNo Xl.here hexec rfl (hb hbytes d7) rfl (ii_ge_f (lt32 (by omega) (by omega))) ?_
        refine XS.aloadN Xl.here hexec rfl (hb hbytes d10) rfl rfl ?_
        refine XS.iloadN Xl.here hexec rfl (hb hbytes d11) rfl ?_
        exact Steps.refl _)
      have c4 : Steps p.tables e below (s₁.setTop (entryFrame m #[.ref b, .int (Int32.ofNat o), .ref d, .int (Int32.ofNat q), .int (Int32.ofNat len)] 7)) (Tl.setTop (mkF m 13 #[.val (.ref b), .val (.int (Int32.ofNat (o + i))), .val (.ref d), .val (.int (Int32.ofNat (q + i))), .val (.int (Int32.ofNat len)), .val (.int (Int32.ofNat i)), z] [.int (cv A (o + i))])) := c3.trans (by
        refine Xl.aget hexec hAl rfl (hA.get (i := o + i) (by omega)) rfl rfl (hb hbytes d12) ?_
        exact Steps.refl _)
      have c5 : Steps p.tables e below (s₁.setTop (entryFrame m #[.ref b, .int (Int32.ofNat o), .ref d, .int (Int32.ofNat q), .int (Int32.ofNat len)] 7)) (Tl.setTop (mkF m 15 #[.val (.ref b), .val (.int (Int32.ofNat (o + i))), .val (.ref d), .val (.int (Int32.ofNat (q + i))), .val (.int (Int32.ofNat len)), .val (.int (Int32.ofNat i)), .val (.int (cv A (o + i)))] [])) := c4.trans (by
        refine XS.istoreS Xl.here hexec rfl (hb hbytes d13) rfl rfl hz ?_
        exact Steps.refl _)
      have c6 : Steps p.tables e below (s₁.setTop (entryFrame m #[.ref b, .int (Int32.ofNat o), .ref d, .int (Int32.ofNat q), .int (Int32.ofNat len)] 7)) (Tl.setTop (mkF m 31 #[.val (.ref b), .val (.int (Int32.ofNat (o + i))), .val (.ref d), .val (.int (Int32.ofNat (q + i))), .val (.int (Int32.ofNat len)), .val (.int (Int32.ofNat i)), .val (.int (cv A (o + i)))] [.int (lo8 (cv A (o + i))), .int (Int32.ofNat (q + i)), .ref d])) := c5.trans (by
        refine XS.iload Xl.here hexec rfl (hb hbytes d15) rfl ?_
        refine sipushV Xl.here hexec rfl 255 (hb hbytes d17) (by decide) ?_
        refine XS.icmpYes Xl.here hexec rfl (pc0 := 20) rfl (hb hbytes d20) rfl (ii_le_t (hp i (by omega))) (by decide) rfl ?_
        refine XS.aloadN Xl.here hexec rfl (hb hbytes d26) rfl rfl ?_
        refine XS.iloadN Xl.here hexec rfl (hb hbytes d27) rfl ?_
        refine XS.iload Xl.here hexec rfl (hb hbytes d28) rfl ?_
        refine i2b Xl.here hexec rfl (hb hbytes d30) rfl ?_
        exact Steps.refl _)
      obtain ⟨T7, X7, p7, st7⟩ := Xl.aput hexec hBk rfl hlt rfl (fits_lo8 (cv A (o + i))) (g := (mkF m 31 #[.val (.ref b), .val (.int (Int32.ofNat (o + i))), .val (.ref d), .val (.int (Int32.ofNat (q + i))), .val (.int (Int32.ofNat len)), .val (.int (Int32.ofNat i)), .val (.int (cv A (o + i)))] [.int (lo8 (cv A (o + i))), .int (Int32.ofNat (q + i)), .ref d])) rfl (rest := []) rfl (hb hbytes d31)
      have c8 : Steps p.tables e below (s₁.setTop (entryFrame m #[.ref b, .int (Int32.ofNat o), .ref d, .int (Int32.ofNat q), .int (Int32.ofNat len)] 7)) (T7.setTop (mkF m 32 #[.val (.ref b), .val (.int (Int32.ofNat (o + i))), .val (.ref d), .val (.int (Int32.ofNat (q + i))), .val (.int (Int32.ofNat len)), .val (.int (Int32.ofNat i)), .val (.int (cv A (o + i)))] [])) := c6.trans (st7 _ (Steps.refl _))
      have c9 : Steps p.tables e below (s₁.setTop (entryFrame m #[.ref b, .int (Int32.ofNat o), .ref d, .int (Int32.ofNat q), .int (Int32.ofNat len)] 7)) (T7.setTop (mkF m 3 #[.val (.ref b), .val (.int (Int32.ofNat (o + i) + 1)), .val (.ref d), .val (.int (Int32.ofNat (q + i) + 1)), .val (.int (Int32.ofNat len)), .val (.int (Int32.ofNat i + 1)), .val (.int (cv A (o + i)))] [])) := c8.trans (by
        refine iincV X7.here hexec rfl 1 (hb hbytes d32) (by decide) rfl rfl ?_
        refine iincV X7.here hexec rfl 1 (hb hbytes d35) (by decide) rfl rfl ?_
        refine iincV X7.here hexec rfl 1 (hb hbytes d38) (by decide) rfl rfl ?_
        refine XS.goto X7.here hexec rfl (pc0 := 41) rfl (hb hbytes d41) (by decide) rfl ?_
        exact Steps.refl _)
      have c10 : Steps p.tables e below (s₁.setTop (entryFrame m #[.ref b, .int (Int32.ofNat o), .ref d, .int (Int32.ofNat q), .int (Int32.ofNat len)] 7)) (T7.setTop (mkF m 3 #[.val (.ref b), .val (.int (Int32.ofNat (o + (i + 1)))), .val (.ref d), .val (.int (Int32.ofNat (q + (i + 1)))), .val (.int (Int32.ofNat len)), .val (.int (Int32.ofNat (i + 1))), .val (.int (cv A (o + i)))] [])) := by
        have := c9
        rw [succ32, succ32, succ32] at this
        exact this
      exact ih (i + 1) (by omega) _ (Or.inr ⟨_, rfl, rfl⟩) T7 _ (by rw [copyLocs_step, ← List.append_assoc]; exact X7) (pl.trans p7) (fl.step (by omega) hlt (by simp)) c10
  obtain ⟨T9, B9, z9, X9, p9, f9, g9⟩ := loop len 0 (by omega) .unset (Or.inl rfl) s₁ B (by simpa [copyLocs] using X0) ⟨hB0.1, fun _ _ => rfl, rfl⟩ (Laid.zero _ _ _) c2
  have c11 : Steps p.tables e below (s₁.setTop (entryFrame m #[.ref b, .int (Int32.ofNat o), .ref d, .int (Int32.ofNat q), .int (Int32.ofNat len)] 7)) (T9.setTop (mkF m 46 #[.val (.ref b), .val (.int (Int32.ofNat (o + len))), .val (.ref d), .val (.int (Int32.ofNat (q + len))), .val (.int (Int32.ofNat len)), .val (.int (Int32.ofNat len)), z9] [.int (Int32.ofNat len)])) := g9.trans (by
    refine XS.iload X9.here hexec rfl (hb hbytes d3) rfl ?_
    refine XS.iload X9.here hexec rfl (hb hbytes d5) rfl ?_
    refine XS.icmpYes X9.here hexec rfl (pc0 := 7) rfl (hb hbytes d7) rfl (ii_ge_t (nlt32 (by omega) (Nat.le_refl _))) (by decide) rfl ?_
    refine XS.iload X9.here hexec rfl (hb hbytes d44) rfl ?_
    exact Steps.refl _)
  exact ⟨T9, some (.int (Int32.ofNat len)), _, _, _, X9, by simp, rfl, rfl, (fun h => by cases h), ⟨rfl, B9, p9.from hh0, f9⟩, fun fs hl => c11.trans (X9.ireturnOut hexec hret rfl (Or.inl rfl) (hb hbytes d46) hl)⟩
end Cmp5
namespace Cmp3
def yN : MethodName := ⟨"java/lang/StringUTF16", "compress", "([CII)[B"⟩
abbrev yB : ByteArray := jdk_52_method_16_code
theorem d0 : decode yB 0 = .ok (.iload_n 2, 1) := by decide +kernel
theorem d1 : decode yB 1 = .ok (.newarray .byte, 2) := by decide +kernel
theorem d3 : decode yB 3 = .ok (.astore_n 3, 1) := by decide +kernel
theorem d4 : decode yB 4 = .ok (.aload_n 0, 1) := by decide +kernel
theorem d5 : decode yB 5 = .ok (.iload_n 1, 1) := by decide +kernel
theorem d6 : decode yB 6 = .ok (.aload_n 3, 1) := by decide +kernel
theorem d7 : decode yB 7 = .ok (.iconst 0, 1) := by decide +kernel
theorem d8 : decode yB 8 = .ok (.iload_n 2, 1) := by decide +kernel
theorem d9 : decode yB 9 = .ok (.invokestatic 115, 3) := by decide +kernel
theorem d12 : decode yB 12 = .ok (.istore 4, 2) := by decide +kernel
theorem d14 : decode yB 14 = .ok (.iload 4, 2) := by decide +kernel
theorem d16 : decode yB 16 = .ok (.iload_n 2, 1) := by decide +kernel
theorem d17 : decode yB 17 = .ok (.if_icmp (.eq) 40, 3) := by decide +kernel
theorem d57 : decode yB 57 = .ok (.aload_n 3, 1) := by decide +kernel
theorem d58 : decode yB 58 = .ok (.areturn, 1) := by decide +kernel
def site : List Cond := [.arrayClass .byte, Cmp5.tab] ++ staticW U16 115 Cmp5.yN
def tab : Cond := tabOf yN yB 6 (some (.array .byte)) site
def P (b : Addr) (A : Cell) (o len : Nat) (args : Array Value) (s : State) : Prop := args = #[.ref b, .int (Int32.ofNat o), .int (Int32.ofNat len)] ∧ Ch b A s ∧ o + len ≤ A.slots.size ∧ len ≤ 536870912 ∧ ∀ i, i < len → ¬ 255 < cv A (o + i)
def E (b : Addr) (A : Cell) (o len : Nat) (r : Option Value) (s u : State) : Prop := NewArr .byte "[B" len (fun j => .int (lo8 (cv A (o + j)))) r s u ∧ u.heap.size = s.heap.size + 1
/-- no char of the range above 255: a new byte[] of their low bytes -/
theorem law (l : Launch) (b : Addr) (A : Cell) (o len : Nat) : Law l yN 3 3 1 18 yB 6 (some (.array .byte)) site (P b A o len) (E b A o len) [] 1 len := by
  refine Law.of_walk (plainFor_of_name (by decide +kernel)) (by decide +kernel) (by decide +kernel) (by decide) (fun _ _ h => by rw [h.1]; rfl) (fun _ U U' hal hh h => ⟨h.1, h.2.1.mv hal hh, h.2.2⟩) (fun r U U' V V' h1 hal h2 h => ⟨NewArr.mv r U U' V V' h1 hal h2 h.1, by rw [h1, h2]; exact h.2⟩) ?_
  intro p e s m args below meth c s₁ X0 hexec hbytes hml hret hlk hnm hown hh0 W hP
  obtain ⟨rfl, hA, l1, l2, hp⟩ := hP
  have a31 := hA.1.2.2.2
  have c1 : Steps p.tables e below (s₁.setTop (entryFrame m #[.ref b, .int (Int32.ofNat o), .int (Int32.ofNat len)] 6)) (s₁.setTop (mkF m 0 #[.val (.ref b), .val (.int (Int32.ofNat o)), .val (.int (Int32.ofNat len)), .unset, .unset, .unset] [])) := entry rfl
  have c2 : Steps p.tables e below (s₁.setTop (entryFrame m #[.ref b, .int (Int32.ofNat o), .int (Int32.ofNat len)] 6)) (s₁.setTop (mkF m 1 #[.val (.ref b), .val (.int (Int32.ofNat o)), .val (.int (Int32.ofNat len)), .unset, .unset, .unset] [.int (Int32.ofNat len)])) := c1.trans (by
    refine XS.iloadN X0.here hexec rfl (hb hbytes d0) rfl ?_
    exact Steps.refl _)
  obtain ⟨T3, B3, X3, ba3, bs3, bv3, bh3, bf3, st3⟩ := X0.anew hexec (atype := .byte) (wk W (.arrayClass .byte)) rfl (by show len * 1 ≤ _; omega) (by omega) (g := (mkF m 1 #[.val (.ref b), .val (.int (Int32.ofNat o)), .val (.int (Int32.ofNat len)), .unset, .unset, .unset] [.int (Int32.ofNat len)])) rfl (hb hbytes d1) (rest := []) rfl (Nat.le_refl _) (by show 0 + len ≤ len; omega)
  rw [hh0] at ba3 st3
  have kp3 : XT.Kept s T3 := (XT.Kept.of_eq hh0).push bh3
  have hA3 := hA.keep X3.warmed.alike (kp3 _ _ hA.1.1)
  have hne : b ≠ s.heap.size := hA.1.ne
  have c4 : Steps p.tables e below (s₁.setTop (entryFrame m #[.ref b, .int (Int32.ofNat o), .int (Int32.ofNat len)] 6)) (T3.setTop (mkF m 3 #[.val (.ref b), .val (.int (Int32.ofNat o)), .val (.int (Int32.ofNat len)), .unset, .unset, .unset] [.ref s.heap.size])) := c2.trans (st3 _ (Steps.refl _))
  have c5 : Steps p.tables e below (s₁.setTop (entryFrame m #[.ref b, .int (Int32.ofNat o), .int (Int32.ofNat len)] 6)) (T3.setTop (mkF m 9 #[.val (.ref b), .val (.int (Int32.ofNat o)), .val (.int (Int32.ofNat len)), .val (.ref s.heap.size), .unset, .unset] [.int (Int32.ofNat len), .int 0, .ref s.heap.size, .int (Int32.ofNat o), .ref b])) := c4.trans (by
    refine XS.astoreN X3.here hexec rfl (hb hbytes d3) rfl rfl rfl ?_
    refine XS.aloadN X3.here hexec rfl (hb hbytes d4) rfl rfl ?_
    refine XS.iloadN X3.here hexec rfl (hb hbytes d5) rfl ?_
    refine XS.aloadN X3.here hexec rfl (hb hbytes d6) rfl rfl ?_
    refine iconstV X3.here hexec rfl 0 (hb hbytes d7) (by decide) ?_
    refine XS.iloadN X3.here hexec rfl (hb hbytes d8) rfl ?_
    exact Steps.refl _)
  obtain ⟨v6, T6, X6, E6, g6⟩ := X3.callS hexec (Cmp5.law l b A s.heap.size B3 o 0 len) hown (wks W (staticW U16 115 Cmp5.yN)) (wk W Cmp5.tab) (W := 0) (Nat.le_of_ble_eq_true rfl) (Nat.le_of_ble_eq_true rfl) (Nat.le_refl _) (by show 0 + len + 0 ≤ len; omega) (g := (mkF m 9 #[.val (.ref b), .val (.int (Int32.ofNat o)), .val (.int (Int32.ofNat len)), .val (.ref s.heap.size), .unset, .unset] [.int (Int32.ofNat len), .int (Int32.ofNat 0), .ref s.heap.size, .int (Int32.ofNat o), .ref b])) rfl (by rw [hml]; rfl) c5 (argsL := [.ref b, .int (Int32.ofNat o), .ref s.heap.size, .int (Int32.ofNat 0), .int (Int32.ofNat len)]) (rest := []) rfl rfl (by show 2 * 0 + 0 ≤ _; decide) (hb hbytes d9) (⟨rfl, hA3, ba3, hne, l1, by rw [bs3]; simp, hp⟩)
  obtain ⟨rfl, B6, p6, f6⟩ := E6
  have c7 : Steps p.tables e below (s₁.setTop (entryFrame m #[.ref b, .int (Int32.ofNat o), .int (Int32.ofNat len)] 6)) (T6.setTop (mkF m 12 #[.val (.ref b), .val (.int (Int32.ofNat o)), .val (.int (Int32.ofNat len)), .val (.ref s.heap.size), .unset, .unset] [.int (Int32.ofNat len)])) := g6
  have c8 : Steps p.tables e below (s₁.setTop (entryFrame m #[.ref b, .int (Int32.ofNat o), .int (Int32.ofNat len)] 6)) (T6.setTop (mkF m 58 #[.val (.ref b), .val (.int (Int32.ofNat o)), .val (.int (Int32.ofNat len)), .val (.ref s.heap.size), .val (.int (Int32.ofNat len)), .unset] [.ref s.heap.size])) := c7.trans (by
    refine XS.istore X6.here hexec rfl (hb hbytes d12) rfl rfl ?_
    refine XS.iload X6.here hexec rfl (hb hbytes d14) rfl ?_
    refine XS.iloadN X6.here hexec rfl (hb hbytes d16) rfl ?_
    refine XS.icmpYes X6.here hexec rfl (pc0 := 17) rfl (hb hbytes d17) rfl (ii_eq_t rfl) (by decide) rfl ?_
    refine XS.aloadN X6.here hexec rfl (hb hbytes d57) rfl rfl ?_
    exact Steps.refl _)
  have X8 := X6.wide (L' := []) (cells' := 1) (slots' := len) (fun x hx hlt => by
    simp only [List.nil_append, copyLocs, List.mem_map, List.mem_range] at hx
    obtain ⟨i, -, rfl⟩ := hx
    exact absurd hlt (Nat.lt_irrefl _)) (Nat.le_refl _) (by omega)
  exact ⟨T6, some (.ref s.heap.size), _, _, _, X8, rfl, rfl, rfl, (fun h => by cases h), ⟨⟨rfl, B6, ba3.like (X3.warmed.alike.symm.trans X6.warmed.alike) p6.1 f6.1 f6.2.1 f6.2.2.1, f6.2.1.trans bv3, by rw [X6.warmed.alike.findClass, f6.1]; exact bf3, by rw [f6.2.2.1, bs3]; simp, fun j hj => by rw [f6.2.2.2 j, if_pos (by omega)]; rfl, kp3.put p6 (Nat.le_refl _)⟩, by rw [p6.2.2, bh3, hh0]; simp⟩, fun fs hl => c8.trans (X8.areturnOut hexec rfl hret rfl (hb hbytes d58) hl)⟩
end Cmp3
namespace CodL
def yN : MethodName := ⟨"java/lang/StringUTF16", "coderFromArrayLen", "([BI)B"⟩
abbrev yB : ByteArray := jdk_52_method_15_code
theorem d0 : decode yB 0 = .ok (.iload_n 1, 1) := by decide +kernel
theorem d1 : decode yB 1 = .ok (.aload_n 0, 1) := by decide +kernel
theorem d2 : decode yB 2 = .ok (.arraylength, 1) := by decide +kernel
theorem d3 : decode yB 3 = .ok (.isub, 1) := by decide +kernel
theorem d4 : decode yB 4 = .ok (.bipush 31, 2) := by decide +kernel
theorem d6 : decode yB 6 = .ok (.iushr, 1) := by decide +kernel
theorem d7 : decode yB 7 = .ok (.i2b, 1) := by decide +kernel
theorem d8 : decode yB 8 = .ok (.ireturn, 1) := by decide +kernel
def site : List Cond := []
def tab : Cond := tabOf yN yB 2 (some .byte) site
def P (d : Addr) (B : Cell) (args : Array Value) (s : State) : Prop := args = #[.ref d, .int (Int32.ofNat B.slots.size)] ∧ Arr .byte d B s
def E (r : Option Value) (s u : State) : Prop := XT.PureE (some (.int 0)) r s u
/-- an array as long as the number of chars: LATIN1 -/
theorem law (l : Launch) (d : Addr) (B : Cell) : Law l yN 2 2 0 0 yB 2 (some .byte) site (P d B) E [] 0 0 := by
  refine Law.of_walk (plainFor_of_name (by decide +kernel)) (by decide +kernel) (by decide +kernel) (by decide) (fun _ _ h => by rw [h.1]; rfl) (fun _ U U' hal hh h => ⟨h.1, h.2.mv hal hh⟩) (fun r U U' V V' h1 hal h2 h => XT.PureE.mv r U U' V V' h1 hal h2 h) ?_
  intro p e s m args below meth c s₁ X0 hexec hbytes hml hret hlk hnm hown hh0 W hP
  obtain ⟨rfl, hB⟩ := hP
  have hB0 := hB.mv X0.warmed.alike hh0
  have c1 : Steps p.tables e below (s₁.setTop (entryFrame m #[.ref d, .int (Int32.ofNat B.slots.size)] 2)) (s₁.setTop (mkF m 0 #[.val (.ref d), .val (.int (Int32.ofNat B.slots.size))] [])) := entry rfl
  have c2 : Steps p.tables e below (s₁.setTop (entryFrame m #[.ref d, .int (Int32.ofNat B.slots.size)] 2)) (s₁.setTop (mkF m 2 #[.val (.ref d), .val (.int (Int32.ofNat B.slots.size))] [.ref d, .int (Int32.ofNat B.slots.size)])) := c1.trans (by
    refine XS.iloadN X0.here hexec rfl (hb hbytes d0) rfl ?_
    refine XS.aloadN X0.here hexec rfl (hb hbytes d1) rfl rfl ?_
    exact Steps.refl _)
  have c3 : Steps p.tables e below (s₁.setTop (entryFrame m #[.ref d, .int (Int32.ofNat B.slots.size)] 2)) (s₁.setTop (mkF m 8 #[.val (.ref d), .val (.int (Int32.ofNat B.slots.size))] [.int (lo8 (ushr (Int32.ofNat B.slots.size - Int32.ofNat B.slots.size) 31))])) := c2.trans (by
    refine X0.alen hexec hB0 rfl rfl (hb hbytes d2) ?_
    refine XS.isub X0.here hexec rfl (hb hbytes d3) rfl ?_
    refine bipushV X0.here hexec rfl 31 (hb hbytes d4) (by decide) ?_
    refine iushr X0.here hexec rfl (hb hbytes d6) rfl ?_
    refine i2b X0.here hexec rfl (hb hbytes d7) rfl ?_
    exact Steps.refl _)
  have e0 : lo8 (ushr (Int32.ofNat B.slots.size - Int32.ofNat B.slots.size) 31) = 0 := by rw [Int32.sub_self]; decide
  rw [e0] at c3
  exact ⟨s₁, some (.int 0), _, _, _, X0, rfl, rfl, rfl, (fun h => by cases h), ⟨rfl, hh0⟩, fun fs hl => c3.trans (X0.ireturnOut hexec hret rfl (Or.inr (Or.inr (Or.inl rfl))) (hb hbytes d8) hl)⟩
end CodL
/-- the String at a is Latin-1 over a new byte[] (the heap's one new cell): the low bytes of the len chars of A from o on; every cell but a is kept -/
def Got (a : Addr) (D : Cell) (fV fC : Field) (A : Cell) (o len : Nat) (r : Option Value) (s u : State) : Prop := r = none ∧ ∃ D' V : Cell, Blank "java/lang/String" a D' u ∧ Same D D' [fV.slot, fC.slot] ∧ D'.slots[fV.slot]? = some (.ref s.heap.size) ∧ D'.slots[fC.slot]? = some (.int 0) ∧ Arr .byte s.heap.size V u ∧ V.vm = .none ∧ u.vm.findClass "[B" = some V.cls ∧ V.slots.size = len ∧ (∀ j, j < len → V.slots[j]? = some (.int (lo8 (cv A (o + j))))) ∧ (∀ (y : Addr) (c : Cell), y ≠ a → s.heap[y]? = some c → u.heap[y]? = some c) ∧ u.heap.size = s.heap.size + 1
theorem Got.mv {a : Addr} {D A : Cell} {fV fC : Field} {o len : Nat} : ∀ r (U U' V V' : State), U'.heap = U.heap → V.vm.Alike V'.vm → V'.heap = V.heap → Got a D fV fC A o len r U V → Got a D fV fC A o len r U' V' :=
  fun r U U' V V' h1 hal h2 ⟨e0, D', X, a1, a2, a3, a4, a5, a6, a7, a8, a9, a10, a11⟩ => ⟨e0, D', X, a1.mv hal h2, a2, by rw [h1]; exact a3, a4, by rw [h1]; exact a5.mv hal h2, a6, by rw [hal.findClass]; exact a7, a8, a9, by rw [h1, h2]; exact a10, by rw [h1, h2]; exact a11⟩
namespace New4
def yN : MethodName := ⟨"java/lang/String", "<init>", "([CIILjava/lang/Void;)V"⟩
abbrev yB : ByteArray := jdk_42_method_149_code
theorem d0 : decode yB 0 = .ok (.aload_n 0, 1) := by decide +kernel
theorem d1 : decode yB 1 = .ok (.invokespecial 1, 3) := by decide +kernel
theorem d4 : decode yB 4 = .ok (.iload_n 3, 1) := by decide +kernel
theorem d5 : decode yB 5 = .ok (.ifCond (.ne) 22, 3) := by decide +kernel
theorem d27 : decode yB 27 = .ok (.getstatic 38, 3) := by decide +kernel
theorem d30 : decode yB 30 = .ok (.ifCond (.eq) 28, 3) := by decide +kernel
theorem d33 : decode yB 33 = .ok (.aload_n 1, 1) := by decide +kernel
theorem d34 : decode yB 34 = .ok (.iload_n 2, 1) := by decide +kernel
theorem d35 : decode yB 35 = .ok (.iload_n 3, 1) := by decide +kernel
theorem d36 : decode yB 36 = .ok (.invokestatic 177, 3) := by decide +kernel
theorem d39 : decode yB 39 = .ok (.astore 5, 2) := by decide +kernel
theorem d41 : decode yB 41 = .ok (.aload_n 0, 1) := by decide +kernel
theorem d42 : decode yB 42 = .ok (.aload 5, 2) := by decide +kernel
theorem d44 : decode yB 44 = .ok (.iload_n 3, 1) := by decide +kernel
theorem d45 : decode yB 45 = .ok (.invokestatic 47, 3) := by decide +kernel
theorem d48 : decode yB 48 = .ok (.putfield 15, 3) := by decide +kernel
theorem d51 : decode yB 51 = .ok (.aload_n 0, 1) := by decide +kernel
theorem d52 : decode yB 52 = .ok (.aload 5, 2) := by decide +kernel
theorem d54 : decode yB 54 = .ok (.putfield 9, 3) := by decide +kernel
theorem d57 : decode yB 57 = .ok (.return_, 1) := by decide +kernel
def site : List Cond := [.fieldLink "java/lang/String" 38 "java/lang/String" "COMPACT_STRINGS" "Z", Cmp3.tab, CodL.tab, .laysFinal "java/lang/String" "java/lang/String" "value" "[B", .fieldLink "java/lang/String" 9 "java/lang/String" "value" "[B", .laysFinal "java/lang/String" "java/lang/String" "coder" "B", .fieldLink "java/lang/String" 15 "java/lang/String" "coder" "B"] ++ objW "java/lang/String" 1 ++ staticW "java/lang/String" 177 Cmp3.yN ++ staticW "java/lang/String" 47 CodL.yN
def tab : Cond := tabOf yN yB 6 none site
def P (a : Addr) (D : Cell) (fV fC : Field) (b : Addr) (A : Cell) (z : Int32) (o len : Nat) (args : Array Value) (s : State) : Prop := args = #[.ref a, .ref b, .int (Int32.ofNat o), .int (Int32.ofNat len), .null] ∧ Blank "java/lang/String" a D s ∧ Found "java/lang/String" "value" "[B" fV s ∧ Found "java/lang/String" "coder" "B" fC s ∧ Ch b A s ∧ StaticIs s "java/lang/String" "COMPACT_STRINGS" "Z" (.int z) ∧ ¬ z = 0 ∧ 0 < len ∧ o + len ≤ A.slots.size ∧ len ≤ 536870912 ∧ ∀ i, i < len → ¬ 255 < cv A (o + i)
def E (a : Addr) (D : Cell) (fV fC : Field) (A : Cell) (o len : Nat) (r : Option Value) (s u : State) : Prop := Got a D fV fC A o len r s u
/-- len > 0, no char of the range above 255: a Latin-1 String of their low bytes -/
theorem law (l : Launch) (a : Addr) (D : Cell) (fV fC : Field) (b : Addr) (A : Cell) (z : Int32) (o len : Nat) : Law l yN 5 4 2 35 yB 6 none site (P a D fV fC b A z o len) (E a D fV fC A o len) [⟨a, fC.slot⟩, ⟨a, fV.slot⟩] 1 len := by
  refine Law.of_walk (plainFor_of_name (by decide +kernel)) (by decide +kernel) (by decide +kernel) (by decide) (fun _ _ h => by rw [h.1]; rfl) (fun _ U U' hal hh h => ⟨h.1, h.2.1.mv hal hh, h.2.2.1.al hal, h.2.2.2.1.al hal, h.2.2.2.2.1.mv hal hh, h.2.2.2.2.2.1.there hal hh, h.2.2.2.2.2.2⟩) (fun r U U' V V' h1 hal h2 h => Got.mv r U U' V V' h1 hal h2 h) ?_
  intro p e s m args below meth c s₁ X0 hexec hbytes hml hret hlk hnm hown hh0 W hP
  obtain ⟨rfl, hB, f1, f2, hA, s1, hz, l0, l1, l2, hp⟩ := hP
  have a31 := hA.1.2.2.2
  have c1 : Steps p.tables e below (s₁.setTop (entryFrame m #[.ref a, .ref b, .int (Int32.ofNat o), .int (Int32.ofNat len), .null] 6)) (s₁.setTop (mkF m 0 #[.val (.ref a), .val (.ref b), .val (.int (Int32.ofNat o)), .val (.int (Int32.ofNat len)), .val .null, .unset] [])) := entry rfl
  have c2 : Steps p.tables e below (s₁.setTop (entryFrame m #[.ref a, .ref b, .int (Int32.ofNat o), .int (Int32.ofNat len), .null] 6)) (s₁.setTop (mkF m 1 #[.val (.ref a), .val (.ref b), .val (.int (Int32.ofNat o)), .val (.int (Int32.ofNat len)), .val .null, .unset] [.ref a])) := c1.trans (by
    refine XS.aloadN X0.here hexec rfl (hb hbytes d0) rfl rfl ?_
    exact Steps.refl _)
  obtain ⟨T3, X3, q3, st3⟩ := X0.oinit hexec hown (wks W (objW "java/lang/String" 1)) (g := (mkF m 1 #[.val (.ref a), .val (.ref b), .val (.int (Int32.ofNat o)), .val (.int (Int32.ofNat len)), .val .null, .unset] [.ref a])) rfl (by rw [hml]; rfl) (rest := []) rfl (hb hbytes d1) (W := 0) (by show 2 * 0 + 0 ≤ _; decide) (Nat.le_of_ble_eq_true rfl) (Nat.le_of_ble_eq_true rfl)
  have hh3 := q3.trans hh0
  have c4 : Steps p.tables e below (s₁.setTop (entryFrame m #[.ref a, .ref b, .int (Int32.ofNat o), .int (Int32.ofNat len), .null] 6)) (T3.setTop (mkF m 27 #[.val (.ref a), .val (.ref b), .val (.int (Int32.ofNat o)), .val (.int (Int32.ofNat len)), .val .null, .unset] [])) := (c2.trans (st3 _ (Steps.refl _))).trans (by
    refine XS.iloadN X3.here hexec rfl (hb hbytes d4) rfl ?_
    refine XS.ifYes X3.here hexec rfl (pc0 := 5) rfl (hb hbytes d5) rfl (i0_ne_t (nz32 (by omega) l0)) (by decide) rfl ?_
    exact Steps.refl _)
  obtain ⟨T5, X5, q5, st5⟩ := X3.sget hexec hown (wk W (.fieldLink "java/lang/String" 38 "java/lang/String" "COMPACT_STRINGS" "Z")) s1 (fun _ _ h => by rw [hh3]; exact h) (g := (mkF m 27 #[.val (.ref a), .val (.ref b), .val (.int (Int32.ofNat o)), .val (.int (Int32.ofNat len)), .val .null, .unset] [])) rfl (hb hbytes d27)
  have hh5 := q5.trans hh3
  have c6 : Steps p.tables e below (s₁.setTop (entryFrame m #[.ref a, .ref b, .int (Int32.ofNat o), .int (Int32.ofNat len), .null] 6)) (T5.setTop (mkF m 30 #[.val (.ref a), .val (.ref b), .val (.int (Int32.ofNat o)), .val (.int (Int32.ofNat len)), .val .null, .unset] [.int z])) := c4.trans (st5 _ (Steps.refl _))
  have c7 : Steps p.tables e below (s₁.setTop (entryFrame m #[.ref a, .ref b, .int (Int32.ofNat o), .int (Int32.ofNat len), .null] 6)) (T5.setTop (mkF m 36 #[.val (.ref a), .val (.ref b), .val (.int (Int32.ofNat o)), .val (.int (Int32.ofNat len)), .val .null, .unset] [.int (Int32.ofNat len), .int (Int32.ofNat o), .ref b])) := c6.trans (by
    refine XS.ifNo X5.here hexec rfl (hb hbytes d30) rfl (i0_eq_f hz) ?_
    refine XS.aloadN X5.here hexec rfl (hb hbytes d33) rfl rfl ?_
    refine XS.iloadN X5.here hexec rfl (hb hbytes d34) rfl ?_
    refine XS.iloadN X5.here hexec rfl (hb hbytes d35) rfl ?_
    exact Steps.refl _)
  obtain ⟨v8, T8, X8, E8, g8⟩ := X5.callS hexec (Cmp3.law l b A o len) hown (wks W (staticW "java/lang/String" 177 Cmp3.yN)) (wk W Cmp3.tab) (W := 0) (Nat.le_of_ble_eq_true rfl) (Nat.le_of_ble_eq_true rfl) (Nat.le_refl _) (by show 0 + len ≤ len; omega) (g := (mkF m 36 #[.val (.ref a), .val (.ref b), .val (.int (Int32.ofNat o)), .val (.int (Int32.ofNat len)), .val .null, .unset] [.int (Int32.ofNat len), .int (Int32.ofNat o), .ref b])) rfl (by rw [hml]; rfl) c7 (argsL := [.ref b, .int (Int32.ofNat o), .int (Int32.ofNat len)]) (rest := []) rfl rfl (by show 2 * 0 + 0 ≤ _; decide) (hb hbytes d36) (⟨rfl, hA.mv X5.warmed.alike hh5, l1, l2, hp⟩)
  obtain ⟨e8, z8⟩ := E8
  obtain ⟨rfl, N, n1, n2, n3, n4, n5, n6⟩ := NewArr.mv _ T5 s _ _ hh5.symm (Vm.Alike.refl _) rfl e8
  rw [hh5] at z8
  have hB1 := hB.keep X8.warmed.alike (n6 _ _ hB.1)
  have hne : s.heap.size ≠ a := (Nat.ne_of_lt (Array.getElem?_eq_some_iff.mp hB.1).1).symm
  have c9 : Steps p.tables e below (s₁.setTop (entryFrame m #[.ref a, .ref b, .int (Int32.ofNat o), .int (Int32.ofNat len), .null] 6)) (T8.setTop (mkF m 39 #[.val (.ref a), .val (.ref b), .val (.int (Int32.ofNat o)), .val (.int (Int32.ofNat len)), .val .null, .unset] [.ref s.heap.size])) := g8
  have c10 : Steps p.tables e below (s₁.setTop (entryFrame m #[.ref a, .ref b, .int (Int32.ofNat o), .int (Int32.ofNat len), .null] 6)) (T8.setTop (mkF m 45 #[.val (.ref a), .val (.ref b), .val (.int (Int32.ofNat o)), .val (.int (Int32.ofNat len)), .val .null, .val (.ref s.heap.size)] [.int (Int32.ofNat N.slots.size), .ref s.heap.size, .ref a])) := by
    have hc : Steps p.tables e below (s₁.setTop (entryFrame m #[.ref a, .ref b, .int (Int32.ofNat o), .int (Int32.ofNat len), .null] 6)) (T8.setTop (mkF m 45 #[.val (.ref a), .val (.ref b), .val (.int (Int32.ofNat o)), .val (.int (Int32.ofNat len)), .val .null, .val (.ref s.heap.size)] [.int (Int32.ofNat len), .ref s.heap.size, .ref a])) := c9.trans (by
      refine XS.astore X8.here hexec rfl (hb hbytes d39) rfl rfl rfl ?_
      refine XS.aloadN X8.here hexec rfl (hb hbytes d41) rfl rfl ?_
      refine XS.aload X8.here hexec rfl (hb hbytes d42) rfl rfl ?_
      refine XS.iloadN X8.here hexec rfl (hb hbytes d44) rfl ?_
      exact Steps.refl _)
    rw [n4]; exact hc
  obtain ⟨v11, T11, X11, E11, g11⟩ := X8.callS hexec (CodL.law l s.heap.size N) hown (wks W (staticW "java/lang/String" 47 CodL.yN)) (wk W CodL.tab) (W := 1) (Nat.le_of_ble_eq_true rfl) (Nat.le_of_ble_eq_true rfl) (Nat.le_refl _) (by show 0 + len + 0 ≤ len; omega) (g := (mkF m 45 #[.val (.ref a), .val (.ref b), .val (.int (Int32.ofNat o)), .val (.int (Int32.ofNat len)), .val .null, .val (.ref s.heap.size)] [.int (Int32.ofNat N.slots.size), .ref s.heap.size, .ref a])) rfl (by rw [hml]; rfl) c10 (argsL := [.ref s.heap.size, .int (Int32.ofNat N.slots.size)]) (rest := [.ref a]) rfl rfl (by show 2 * 0 + (1 + 0) ≤ _; decide) (hb hbytes d45) (⟨rfl, n1⟩)
  obtain ⟨rfl, q11⟩ := E11
  have hB11 := hB1.mv (X8.warmed.alike.symm.trans X11.warmed.alike) q11
  have c12 : Steps p.tables e below (s₁.setTop (entryFrame m #[.ref a, .ref b, .int (Int32.ofNat o), .int (Int32.ofNat len), .null] 6)) (T11.setTop (mkF m 48 #[.val (.ref a), .val (.ref b), .val (.int (Int32.ofNat o)), .val (.int (Int32.ofNat len)), .val .null, .val (.ref s.heap.size)] [.int 0, .ref a])) := g11
  obtain ⟨T13, X13, p13, bl13, sl13, st13⟩ := X11.finit hexec hown (wk W (.fieldLink "java/lang/String" 15 "java/lang/String" "coder" "B")) (Or.inr ⟨_, (wk W (.laysFinal "java/lang/String" "java/lang/String" "coder" "B"))⟩) (Or.inl ⟨rfl, hnm⟩) f2 (Or.inl rfl) hB11 (t := .byte) (by decide +kernel) rfl (g := (mkF m 48 #[.val (.ref a), .val (.ref b), .val (.int (Int32.ofNat o)), .val (.int (Int32.ofNat len)), .val .null, .val (.ref s.heap.size)] [.int 0, .ref a])) rfl (rest := []) rfl (hb hbytes d48)
  have c14 : Steps p.tables e below (s₁.setTop (entryFrame m #[.ref a, .ref b, .int (Int32.ofNat o), .int (Int32.ofNat len), .null] 6)) (T13.setTop (mkF m 54 #[.val (.ref a), .val (.ref b), .val (.int (Int32.ofNat o)), .val (.int (Int32.ofNat len)), .val .null, .val (.ref s.heap.size)] [.ref s.heap.size, .ref a])) := (c12.trans (st13 _ (Steps.refl _))).trans (by
    refine XS.aloadN X13.here hexec rfl (hb hbytes d51) rfl rfl ?_
    refine XS.aload X13.here hexec rfl (hb hbytes d52) rfl rfl ?_
    exact Steps.refl _)
  obtain ⟨T15, X15, p15, bl15, sl15, st15⟩ := X13.finit hexec hown (wk W (.fieldLink "java/lang/String" 9 "java/lang/String" "value" "[B")) (Or.inr ⟨_, (wk W (.laysFinal "java/lang/String" "java/lang/String" "value" "[B"))⟩) (Or.inl ⟨rfl, hnm⟩) f1 (Or.inl rfl) bl13 (t := (.array .byte)) (by decide +kernel) rfl (g := (mkF m 54 #[.val (.ref a), .val (.ref b), .val (.int (Int32.ofNat o)), .val (.int (Int32.ofNat len)), .val .null, .val (.ref s.heap.size)] [.ref s.heap.size, .ref a])) rfl (rest := []) rfl (hb hbytes d54)
  have c16 : Steps p.tables e below (s₁.setTop (entryFrame m #[.ref a, .ref b, .int (Int32.ofNat o), .int (Int32.ofNat len), .null] 6)) (T15.setTop (mkF m 57 #[.val (.ref a), .val (.ref b), .val (.int (Int32.ofNat o)), .val (.int (Int32.ofNat len)), .val .null, .val (.ref s.heap.size)] [])) := c14.trans (st15 _ (Steps.refl _))
  have ap := apart (Or.inr ⟨_, (wk W (.laysFinal "java/lang/String" "java/lang/String" "value" "[B"))⟩) (Or.inr ⟨_, (wk W (.laysFinal "java/lang/String" "java/lang/String" "coder" "B"))⟩) f1 f2 (t₁ := .array .byte) (t₂ := .byte) (by decide +kernel) (by decide +kernel) (by decide)
  have al := X8.warmed.alike.symm.trans X15.warmed.alike
  have n7 : T11.heap[s.heap.size]? = some N := by rw [q11]; exact n1.1
  exact ⟨T15, none, _, _, _, X15, by simp, rfl, by omega, (fun _ => rfl), ⟨rfl, _, N, bl15, ((Same.refl D _).set _ (by simp)).set _ (by simp), sl15, (Cell.slots_setSlot_ne _ ap).trans sl13, n1.keep al (p15.other hne (p13.other hne n7)), n2, by rw [al.findClass]; exact n3, n4, n5, fun y c h1 h2 => p15.other h1 (p13.other h1 (by rw [q11]; exact n6 y c h2)), by rw [p15.2.2, p13.2.2, q11]; exact z8⟩, fun fs hl => c16.trans (X15.returnOut hexec hret (hb hbytes d57) hl)⟩
end New4
namespace New1
def yN : MethodName := ⟨"java/lang/String", "<init>", "([C)V"⟩
abbrev yB : ByteArray := jdk_42_method_3_code
theorem d0 : decode yB 0 = .ok (.aload_n 0, 1) := by decide +kernel
theorem d1 : decode yB 1 = .ok (.aload_n 1, 1) := by decide +kernel
theorem d2 : decode yB 2 = .ok (.iconst 0, 1) := by decide +kernel
theorem d3 : decode yB 3 = .ok (.aload_n 1, 1) := by decide +kernel
theorem d4 : decode yB 4 = .ok (.arraylength, 1) := by decide +kernel
theorem d5 : decode yB 5 = .ok (.aconst_null, 1) := by decide +kernel
theorem d6 : decode yB 6 = .ok (.invokespecial 27, 3) := by decide +kernel
theorem d9 : decode yB 9 = .ok (.return_, 1) := by decide +kernel
def site : List Cond := [New4.tab] ++ initW "java/lang/String" 27 New4.yN
def tab : Cond := tabOf yN yB 2 none site
def P (a : Addr) (D : Cell) (fV fC : Field) (b : Addr) (A : Cell) (z : Int32) (args : Array Value) (s : State) : Prop := args = #[.ref a, .ref b] ∧ Blank "java/lang/String" a D s ∧ Found "java/lang/String" "value" "[B" fV s ∧ Found "java/lang/String" "coder" "B" fC s ∧ Ch b A s ∧ StaticIs s "java/lang/String" "COMPACT_STRINGS" "Z" (.int z) ∧ ¬ z = 0 ∧ 0 < A.slots.size ∧ A.slots.size ≤ 536870912 ∧ ∀ i, i < A.slots.size → ¬ 255 < cv A i
def E (a : Addr) (D : Cell) (fV fC : Field) (A : Cell) (r : Option Value) (s u : State) : Prop := Got a D fV fC A 0 A.slots.size r s u
/-- new String(chars), not empty, no char above 255: a Latin-1 String of their low bytes -/
theorem law (l : Launch) (a : Addr) (D : Cell) (fV fC : Field) (b : Addr) (A : Cell) (z : Int32) : Law l yN 2 1 3 52 yB 2 none site (P a D fV fC b A z) (E a D fV fC A) [⟨a, fC.slot⟩, ⟨a, fV.slot⟩] 1 A.slots.size := by
  refine Law.of_walk (plainFor_of_name (by decide +kernel)) (by decide +kernel) (by decide +kernel) (by decide) (fun _ _ h => by rw [h.1]; rfl) (fun _ U U' hal hh h => ⟨h.1, h.2.1.mv hal hh, h.2.2.1.al hal, h.2.2.2.1.al hal, h.2.2.2.2.1.mv hal hh, h.2.2.2.2.2.1.there hal hh, h.2.2.2.2.2.2⟩) (fun r U U' V V' h1 hal h2 h => Got.mv r U U' V V' h1 hal h2 h) ?_
  intro p e s m args below meth c s₁ X0 hexec hbytes hml hret hlk hnm hown hh0 W hP
  obtain ⟨rfl, hB, f1, f2, hA, s1, hz, l0, l2, hp⟩ := hP
  have c1 : Steps p.tables e below (s₁.setTop (entryFrame m #[.ref a, .ref b] 2)) (s₁.setTop (mkF m 0 #[.val (.ref a), .val (.ref b)] [])) := entry rfl
  have c2 : Steps p.tables e below (s₁.setTop (entryFrame m #[.ref a, .ref b] 2)) (s₁.setTop (mkF m 6 #[.val (.ref a), .val (.ref b)] [.null, .int (Int32.ofNat A.slots.size), .int 0, .ref b, .ref a])) := c1.trans (by
    refine XS.aloadN X0.here hexec rfl (hb hbytes d0) rfl rfl ?_
    refine XS.aloadN X0.here hexec rfl (hb hbytes d1) rfl rfl ?_
    refine iconstV X0.here hexec rfl 0 (hb hbytes d2) (by decide) ?_
    refine XS.aloadN X0.here hexec rfl (hb hbytes d3) rfl rfl ?_
    refine X0.alen hexec (hA.1.mv X0.warmed.alike hh0) rfl rfl (hb hbytes d4) ?_
    refine XS.aconstNull X0.here hexec rfl (hb hbytes d5) ?_
    exact Steps.refl _)
  obtain ⟨v3, T3, X3, E3, g3⟩ := X0.callN hexec (New4.law l a D fV fC b A z 0 A.slots.size) rfl hown (wks W (initW "java/lang/String" 27 New4.yN)) (W New4.tab (by simp only [site, List.mem_cons, List.mem_append, true_or, or_true])) (W := 0) (Nat.le_of_ble_eq_true rfl) (Nat.le_of_ble_eq_true rfl) (Nat.le_refl _) (by show 0 + A.slots.size ≤ A.slots.size; omega) (g := (mkF m 6 #[.val (.ref a), .val (.ref b)] [.null, .int (Int32.ofNat A.slots.size), .int (Int32.ofNat 0), .ref b, .ref a])) rfl (by rw [hml]; rfl) c2 (argsL := [.ref b, .int (Int32.ofNat 0), .int (Int32.ofNat A.slots.size), .null]) (rest := []) rfl rfl (by show 2 * 0 + 0 ≤ _; decide) (hb hbytes d6) (⟨rfl, hB.mv X0.warmed.alike hh0, f1.al X0.warmed.alike, f2.al X0.warmed.alike, hA.mv X0.warmed.alike hh0, s1.there X0.warmed.alike hh0, hz, l0, by omega, l2, fun i hi => by rw [Nat.zero_add]; exact hp i hi⟩)
  have e0 := Got.mv _ s₁ s _ _ hh0.symm (Vm.Alike.refl _) rfl E3
  obtain rfl := e0.1
  have c4 : Steps p.tables e below (s₁.setTop (entryFrame m #[.ref a, .ref b] 2)) (T3.setTop (mkF m 9 #[.val (.ref a), .val (.ref b)] [])) := g3
  exact ⟨T3, none, _, _, _, X3, by simp, rfl, by omega, (fun _ => rfl), e0, fun fs hl => c4.trans (X3.returnOut hexec hret (hb hbytes d9) hl)⟩
theorem pays {l : Launch} {R : Room} {p : Program} {e : Env} {below : List Frame} {s : State} {sargs : Array Value} {len W : Nat} (a : Addr) (D : Cell) (fV fC : Field) (b : Addr) (A : Cell) (z : Int32) (htab : tab.before sargs s = true) (hfr : 4 ≤ R.frames) (hlo : W + 65 ≤ R.locals) :
    Back l R p e below s sargs yN len W (fun A₁ a₁ => A₁.cells + 1 ≤ R.cells ∧ A₁.slots + A.slots.size ≤ R.slots ∧ P a D fV fC b A z a₁ A₁.U) (fun A₁ _ v₁ B₁ => E a D fV fC A v₁ A₁.U B₁.U ∧ B₁.locs = A₁.locs ++ [⟨a, fC.slot⟩, ⟨a, fV.slot⟩] ∧ B₁.cells = A₁.cells + 1 ∧ B₁.slots = A₁.slots + A.slots.size) :=
  (law l a D fV fC b A z).pays htab hfr (by omega)
end New1
end StrChars
namespace StrChars.Road
open Jvm Sem ClassFile Op Lib Jvm.Stand Jvm.Free Jvm.Free.XT
open Jvm.Lib.Cold (StaticIs)
abbrev ST : String := "java/lang/String"
/-- every table word that New1's law asks, flat -/
abbrev words : List Jvm.Cond := [.code New1.yN New1.yB 2 none, .initialized ST, .methodLink ST 27 New4.yN, .instanceMethod New4.yN,
  .code New4.yN New4.yB 6 none, .fieldLink ST 38 ST "COMPACT_STRINGS" "Z", .laysFinal ST ST "value" "[B", .fieldLink ST 9 ST "value" "[B", .laysFinal ST ST "coder" "B", .fieldLink ST 15 ST "coder" "B",
  .methodLink ST 1 Lib.objectInit, .instanceMethod Lib.objectInit, .code Lib.objectInit ⟨#[0xb1]⟩ 1 none, .methodLink ST 177 Cmp3.yN, .static Cmp3.yN, .methodLink ST 47 CodL.yN, .static CodL.yN,
  .code Cmp3.yN Cmp3.yB 6 (some (.array .byte)), .initialized U16, .arrayClass .byte, .methodLink U16 115 Cmp5.yN, .static Cmp5.yN, .code Cmp5.yN Cmp5.yB 7 (some .int), .code CodL.yN CodL.yB 2 (some .byte)]
theorem tab_of {a : Array Value} {s : State} (h : ∀ w ∈ words, w.before a s = true) : New1.tab.before a s = true := by
  have h5 : Cmp5.tab.before a s = true := unparts (wk h (.code Cmp5.yN Cmp5.yB 7 (some .int))) (wks h (.initialized Cmp5.yN.cls :: Cmp5.site))
  have hc : CodL.tab.before a s = true := unparts (wk h (.code CodL.yN CodL.yB 2 (some .byte))) (wks h (.initialized CodL.yN.cls :: CodL.site))
  have q5 : ∀ w ∈ Cmp5.tab :: words, w.before a s = true := fun w hw => (List.mem_cons.mp hw).elim (fun e => e ▸ h5) (h w)
  have h3 : Cmp3.tab.before a s = true := unparts (wk q5 (.code Cmp3.yN Cmp3.yB 6 (some (.array .byte)))) (wks q5 (.initialized Cmp3.yN.cls :: Cmp3.site))
  have q3 : ∀ w ∈ Cmp3.tab :: CodL.tab :: words, w.before a s = true := fun w hw => (List.mem_cons.mp hw).elim (fun e => e ▸ h3) fun hw => (List.mem_cons.mp hw).elim (fun e => e ▸ hc) (h w)
  have h4 : New4.tab.before a s = true := unparts (wk q3 (.code New4.yN New4.yB 6 none)) (wks q3 (.initialized New4.yN.cls :: New4.site))
  have q4 : ∀ w ∈ New4.tab :: words, w.before a s = true := fun w hw => (List.mem_cons.mp hw).elim (fun e => e ▸ h4) (h w)
  exact unparts (wk q4 (.code New1.yN New1.yB 2 none)) (wks q4 (.initialized New1.yN.cls :: New1.site))
/-- the words ride from the start Z to the walk's own state -/
theorem moved {Z s : State} {a0 args : Array Value} (hZ : Z.Warmed39 s.vm) (hw : ∀ d ∈ words, d.before a0 Z = true) : ∀ d ∈ words, d.before args s = true := fun d hd => by
  have q := hw d hd
  have t : ∀ d ∈ words, d = .arrayClass .byte ∨ (d.onTables && d.keepsFace) = true := by decide +kernel
  rcases t d hd with rfl | t
  · exact RoadKit.mvA hZ q
  · exact RoadKit.mv hZ q t
/-- WHAT COMES BACK, over the tables of the start Z: h the heap at the call, h' behind it -/
def Q (Z : State) (x : Addr) (A : Cell) (h : Heap) (v : Option Value) (h' : Heap) (L : List Loc) : Prop := v = none ∧ (∀ y ∈ L, y.base = x) ∧ RoadKit.Keep h h' [x] ∧ h'.size = h.size + 1 ∧ RoadKit.Exa Z h' x ST ∧ RoadKit.Fld Z h' x ST "value" "[B" (.ref h.size) ∧ RoadKit.Fld Z h' x ST "coder" "B" (.int 0) ∧
  (∃ V : Cell, RoadKit.Arr Z h' h.size V .byte ∧ V.vm = .none ∧ Z.vm.findClass "[B" = some V.cls ∧ V.slots.size = A.slots.size ∧ ∀ j, j < A.slots.size → V.slots[j]? = some (.int (lo8 (cv A j)))) ∧
  ∀ (O n d : String) (w : Value), RoadKit.Fld Z h x O n d w → RoadKit.slotOf Z O n d ≠ RoadKit.slotOf Z ST "value" "[B" → RoadKit.slotOf Z O n d ≠ RoadKit.slotOf Z ST "coder" "B" → RoadKit.Fld Z h' x O n d w
/-- **new String(chars) AT A CALL, IN THE ROAD'S FORM**: for specialBack behind newO: x the fresh String, b the char[] with the cell A -/
theorem back {p : Program} {l : Launch} {e : Env} {R : Room} {s : State} {args : Array Value} {below : List Frame} {len W : Nat} {Z : State} {a0 : Array Value} {h : Heap} (hZ : Z.Warmed39 s.vm) (hw : ∀ d ∈ words, d.before a0 Z = true) {kI : Nat} (wi : (Jvm.Cond.instantiable ST kI).before a0 Z = true)
    {x b : Addr} {A : Cell} {z : Int32} {v0 c0 : Value} (E : RoadKit.Exa Z h x ST) (V : RoadKit.Fld Z h x ST "value" "[B" v0) (C : RoadKit.Fld Z h x ST "coder" "B" c0) (K : RoadKit.Arr Z h b A .char) (hty : Typed .char A) (S : RoadKit.Sta Z h ST "COMPACT_STRINGS" "Z" (.int z)) (hz : ¬ z = 0)
    (l0 : 0 < A.slots.size) (l2 : A.slots.size ≤ 536870912) (hp : ∀ i, i < A.slots.size → ¬ 255 < cv A i) (hfr : 4 ≤ R.frames) (hlo : W + 65 ≤ R.locals) :
    Back l R p e below s args New1.yN len W (fun P a => a = #[.ref x, .ref b] ∧ P.U.heap = h ∧ P.cells + 1 ≤ R.cells ∧ P.slots + A.slots.size ≤ R.slots)
      (fun P _ v B => ∃ L, Q Z x A h v B.U.heap L ∧ B.locs = P.locs ++ L ∧ B.cells = P.cells + 1 ∧ B.slots = P.slots + A.slots.size) := by
  intro m meth c P g ig mk a X hg hsize hdg hW hn hp'
  obtain ⟨rfl, rfl, r1, r2⟩ := hp'
  have al : Z.vm.Alike P.U.vm := hZ.alike.trans X.warmed.alike
  obtain ⟨D, cfV, kV, iV, fV, hD, gV, stV, knV, obV, asV, slV⟩ := id V
  obtain ⟨D', cfC, kC, iC, fC, hD', gC, stC, -, -, asC, slC⟩ := id C
  cases hD.symm.trans hD'
  obtain ⟨D2, kD, e1, e2, e3, e4, e5⟩ := id E
  cases hD.symm.trans e1
  obtain ⟨c2, k2, i1, i2, i3, -⟩ := Cond.instantiable_spec wi
  cases e2.symm.trans i1
  cases e3.symm.trans i2
  obtain ⟨kU, u1, u2⟩ := al.2.2 _ _ e3
  have hB : Blank ST x D P.U := ⟨hD, ⟨knV, fun q hq => by rw [hq] at obV; cases obV⟩, by rw [al.findClass]; exact e2, kU, u1, by rw [u2]; exact i3, by rw [u2]; exact e5 i3⟩
  have F1 : Found ST "value" "[B" fV P.U := ⟨SBG.found_only al ⟨cfV, kV, iV, gV⟩, stV⟩
  have F2 : Found ST "coder" "B" fC P.U := ⟨SBG.found_only al ⟨cfC, kC, iC, gC⟩, stC⟩
  have hA : Ch b A P.U := ⟨⟨K.1, State.isArrayOf_alike al K.2.1, K.2.2, by omega⟩, hty⟩
  have hS : StaticIs P.U ST "COMPACT_STRINGS" "Z" (.int z) := by
    obtain ⟨cfS, iS, kS, fS, st, cS, t1, t2, t3, t4, t5, t6, t7⟩ := S
    exact StaticIs.there (s := { Z with heap := P.U.heap }) ⟨cfS, iS, kS, fS, st, cS, t1, t2, t3, t4, t5, (fun q => by rw [q] at t6; cases t6), t7⟩ al rfl
  obtain ⟨v, B, X', ⟨⟨hv, E', V', q1, q2, q3, q4, q5, q6, q7, q8, q9, q10, q11⟩, hl, hc, hs⟩, st⟩ := New1.pays x D fV fC b A z (tab_of (moved hZ hw)) hfr hlo m meth c P g ig mk _ X hg hsize hdg hW hn ⟨r1, r2, rfl, hB, F1, F2, hA, hS, hz, l0, l2, hp⟩
  have al' : Z.vm.Alike B.U.vm := hZ.alike.trans X'.warmed.alike
  have hsz : E'.slots.size = D.slots.size := by
    obtain ⟨-, -, -, kB, w1, w2, w3⟩ := q1
    obtain ⟨kB', y1, y2⟩ := al'.2.2 _ _ e3
    rw [q2.2.1] at w1
    cases w1.symm.trans y1
    rw [w3, e5 i3, y2]
  refine ⟨v, B, X', ⟨_, ⟨hv, ?_, ⟨by omega, fun y cy hy hn' => q10 y cy (by simpa using hn') hy, fun y cy hy => ?_⟩, q11, ⟨E', _, q1.1, by rw [q2.2.1]; exact e2, by rw [q2.2.1]; exact e3, by rw [q2.1]; exact obV, fun _ => by rw [hsz]; exact e5 i3⟩,
    ⟨E', cfV, kV, iV, fV, q1.1, gV, stV, by rw [q2.1]; exact knV, by rw [q2.1]; exact obV, by rw [q2.2.1]; exact asV, q3⟩, ⟨E', cfC, kC, iC, fC, q1.1, gC, stC, by rw [q2.1]; exact knV, by rw [q2.1]; exact obV, by rw [q2.2.1]; exact asC, q4⟩,
    ⟨V', ⟨q5.1, State.isArrayOf_alike al'.symm q5.2.1, q5.2.2.1⟩, q6, by rw [← al'.findClass]; exact q7, q8, fun j hj => by have := q9 j hj; rwa [Nat.zero_add] at this⟩, fun O n d w F n1 n2 => ?_⟩, hl, hc, hs⟩, st⟩
  · intro y hy
    simp only [List.mem_cons, List.not_mem_nil, or_false] at hy
    rcases hy with rfl | rfl <;> rfl
  · by_cases q : y = x
    · subst q
      cases hD.symm.trans hy
      exact ⟨E', q1.1, q2.2.1, q2.1, hsz⟩
    · exact ⟨cy, q10 y cy q hy, rfl, rfl, rfl⟩
  · obtain ⟨D3, cf, k, i, f, g1, g2, g3, g4, g5, g6, g7⟩ := F
    cases hD.symm.trans g1
    simp only [RoadKit.slotOf, g2, gV, gC, Option.map_some, Option.getD_some] at n1 n2
    exact ⟨E', cf, k, i, f, q1.1, g2, g3, by rw [q2.1]; exact g4, by rw [q2.1]; exact g5, by rw [q2.2.1]; exact g6, by rw [q2.2.2 f.slot (by simp [n1, n2])]; exact g7⟩
end StrChars.Road
namespace StrChars.Road
open Jvm Sem ClassFile Op Lib Jvm.Stand Jvm.Free Jvm.Free.XT
/-- WHAT COMES BACK, the byte[] as a list of values -/
def QA (Z : State) (x : Addr) (zn : Int32) (cs : List Int32) (h : Heap) (v : Option Value) (h' : Heap) (L : List Loc) : Prop := v = none ∧ (∀ y ∈ L, y.base = x) ∧ RoadKit.Keep h h' [x] ∧ h'.size = h.size + 1 ∧ RoadKit.Exa Z h' x ST ∧ RoadKit.Fld Z h' x ST "value" "[B" (.ref h.size) ∧ RoadKit.Fld Z h' x ST "coder" "B" (.int 0) ∧
  (∃ kb, Z.vm.findClass "[B" = some kb ∧ RoadKit.Arv Z h' h.size kb .byte zn (cs.map fun c => .int (lo8 c)) (.int 0)) ∧
  ∀ (O n d : String) (w : Value), RoadKit.Fld Z h x O n d w → RoadKit.slotOf Z O n d ≠ RoadKit.slotOf Z ST "value" "[B" → RoadKit.slotOf Z O n d ≠ RoadKit.slotOf Z ST "coder" "B" → RoadKit.Fld Z h' x O n d w
/-- **new String(chars) AT A CALL, THE ARRAYS AS LISTS**: the char[] at b holds cs, not empty, no char above 255 -/
theorem backArv {p : Program} {l : Launch} {e : Env} {R : Room} {s : State} {args : Array Value} {below : List Frame} {len W : Nat} {Z : State} {a0 : Array Value} {h : Heap} (hZ : Z.Warmed39 s.vm) (hw : ∀ d ∈ words, d.before a0 Z = true) {kI : Nat} (wi : (Jvm.Cond.instantiable ST kI).before a0 Z = true)
    {x b : Addr} {k : ClassId} {zn z : Int32} {cs : List Int32} {dv v0 c0 : Value} (E : RoadKit.Exa Z h x ST) (V : RoadKit.Fld Z h x ST "value" "[B" v0) (C : RoadKit.Fld Z h x ST "coder" "B" c0) (K : RoadKit.Arv Z h b k .char zn (cs.map Value.int) dv) (S : RoadKit.Sta Z h ST "COMPACT_STRINGS" "Z" (.int z)) (hz : ¬ z = 0)
    (hlen : zn.toNatClampNeg = cs.length) (h0 : 0 < cs.length) (hbig : cs.length ≤ 536870912) (hall : ∀ c ∈ cs, ¬ 255 < c) (hfr : 4 ≤ R.frames) (hlo : W + 65 ≤ R.locals) :
    Back l R p e below s args New1.yN len W (fun P a => a = #[.ref x, .ref b] ∧ P.U.heap = h ∧ P.cells + 1 ≤ R.cells ∧ P.slots + cs.length ≤ R.slots)
      (fun P _ v B => ∃ L, QA Z x zn cs h v B.U.heap L ∧ B.locs = P.locs ++ L ∧ B.cells = P.cells + 1 ∧ B.slots = P.slots + cs.length) := by
  obtain ⟨A, K1, K2, K3, K4, K5, K6⟩ := K
  have e : A.slots.size = cs.length := K3.trans hlen
  have hat : ∀ (i : Nat) (hi : i < cs.length), A.slots[i]? = some (.int cs[i]) := fun i hi => by rw [K5 i (by omega)]; simp [List.getD_eq_getElem?_getD, hi]
  have hcv : ∀ (i : Nat) (hi : i < cs.length), cv A i = cs[i] := fun i hi => by unfold cv; rw [hat i hi]
  have hty : Typed .char A := fun i v hv => by
    have hi : i < A.slots.size := (Array.getElem?_eq_some_iff.mp hv).1
    have q := K5 i hi
    rw [hv] at q
    rw [Option.some.inj q]
    exact K6 i hi
  refine Back.mono (back hZ hw wi E V C K1 hty S hz (by omega) (by omega) (fun i hi => by rw [hcv i (by omega)]; exact hall _ (List.getElem_mem _)) hfr hlo) (fun P a hp => ⟨hp.1, hp.2.1, hp.2.2.1, by rw [e]; exact hp.2.2.2⟩) (fun P a v B hp hq => ?_)
  obtain ⟨L, ⟨q1, q2, q3, q4, q5, q6, q7, ⟨V', v1, v2, v3, v4, v5⟩, q9⟩, hl, hc, hs⟩ := hq
  refine ⟨L, ⟨q1, q2, q3, q4, q5, q6, q7, ⟨V'.cls, v3, V', v1, rfl, by rw [v4, e, hlen], K4, fun i hi => ?_, fun i hi => ?_⟩, q9⟩, hl, hc, by rw [hs, e]⟩
  · have hi' : i < cs.length := by omega
    rw [v5 i (by omega), hcv i hi']; simp [List.getD_eq_getElem?_getD, hi']
  · have hi' : i < cs.length := by omega
    simp only [List.getD_eq_getElem?_getD, List.getElem?_map, List.getElem?_eq_getElem hi', Option.map_some, Option.getD_some]
    exact fits_lo8 _
end StrChars.Road
namespace StrChars.Road
open Jvm Sem ClassFile Op Lib Jvm.Stand Jvm.Free Jvm.Free.XT
/-- WHAT COMES BACK, in the writer's own shape -/
def QV (Z : State) (x : Addr) (N : Int32) (bs : List Int32) (h : Heap) (n0 : Nat) (v : Option Value) (h' : Heap) (L : List Loc) : Prop := v = none ∧ RoadKit.Fr n0 L ∧ RoadKit.Keep h h' [x] ∧ RoadKit.Exa Z h' x ST ∧ RoadKit.Fld Z h' x ST "coder" "B" (.int 0) ∧
  ∃ (t : Addr) (kb : ClassId), n0 ≤ t ∧ h.size ≤ t ∧ ¬ t = x ∧ RoadKit.Fld Z h' x ST "value" "[B" (.ref t) ∧ RoadKit.Arv Z h' t kb .byte N (bs.map Value.int) (.int 0)
/-- **new String(chars) AT A CALL, FOR THE WRITER**: a char[] of n known ints, each 0 to 255 -/
theorem backV {p : Program} {l : Launch} {e : Env} {R : Room} {s : State} {args : Array Value} {below : List Frame} {len W : Nat} {Z : State} {a0 : Array Value} {h : Heap} (hZ : Z.Warmed39 s.vm) (hw : ∀ d ∈ words, d.before a0 Z = true) {kI : Nat} (wi : (Jvm.Cond.instantiable ST kI).before a0 Z = true)
    {x b : Addr} {kC : ClassId} {cs bs : List Int32} {d v0 c0 : Value} {z N : Int32} {n n0 : Nat} (hx0 : n0 ≤ x) (hh0 : n0 ≤ h.size) (E : RoadKit.Exa Z h x ST) (V : RoadKit.Fld Z h x ST "value" "[B" v0) (C : RoadKit.Fld Z h x ST "coder" "B" c0) (K : RoadKit.Arv Z h b kC .char N (cs.map Value.int) d) (S : RoadKit.Sta Z h ST "COMPACT_STRINGS" "Z" (.int z)) (hz : ¬ z = 0)
    (hn : cs.length = n) (hN : N = Int32.ofNat n) (l0 : 0 < n) (l2 : n ≤ 4000) (hp : ∀ c ∈ cs, ¬ c < 0 ∧ ¬ (255 : Int32) < c) (hb : bs = cs.map (fun c => c.toInt8.toInt32)) (hfr : 4 ≤ R.frames) (hlo : W + 65 ≤ R.locals) :
    Back l R p e below s args (⟨"java/lang/String", "<init>", "([C)V"⟩ : MethodName) len W (fun P a => a = #[.ref x, .ref b] ∧ P.U.heap = h ∧ P.cells + 1 ≤ R.cells ∧ P.slots + n ≤ R.slots)
      (fun P _ v B => ∃ L, QV Z x N bs h n0 v B.U.heap L ∧ B.locs = P.locs ++ L ∧ B.cells = P.cells + 1 ∧ B.slots = P.slots + n) := by
  subst hn hN hb
  refine Back.mono (backArv hZ hw wi E V C K S hz (n32 (by omega)) l0 (by omega) (fun c hc => (hp c hc).2) hfr hlo) (fun P a hp => hp) (fun P a v B hp hq => ?_)
  obtain ⟨L, ⟨q1, q2, q3, q4, q5, q6, q7, ⟨kb, v1, v2⟩, q9⟩, hl, hc, hs⟩ := hq
  exact ⟨L, ⟨q1, fun y hy => by rw [q2 y hy]; exact hx0, q3, q5, q7, h.size, kb, hh0, Nat.le_refl _, Nat.ne_of_gt E.lt, q6, by rw [List.map_map]; exact v2⟩, hl, hc, hs⟩
end StrChars.Road
namespace StrChars
open Jvm Sem ClassFile Op Lib Jvm.Stand Jvm.Free.XT Jvm.Free.ALB Jvm.Free.JM Jvm.Free
open Jvm.Lib.Cold (StaticIs)
def hi8 (x : Int32) : Int32 := lo8 (x >>> ((8 : Int32) &&& 31))
end StrChars
namespace StrChars
open Jvm Sem ClassFile Op Lib Jvm.Stand Jvm.Free.XT Jvm.Free.ALB Jvm.Free.JM Jvm.Free
open Jvm.Lib.Cold (StaticIs)
/-- the array's cell V codes the n chars f 0 .. f (n - 1) by the coder cd, as the JDK does: coder 1 just where some char is above 255 -/
def Cod (cd : Int32) (n : Nat) (f : Nat → Int32) (V : Cell) : Prop := (cd = 0 ∧ V.slots.size = n ∧ ∀ j, j < n → V.slots[j]? = some (.int (lo8 (f j))) ∧ ¬ 255 < f j) ∨ (cd = 1 ∧ V.slots.size = 2 * n ∧ (∀ j, j < n → V.slots[2 * j]? = some (.int (lo8 (f j))) ∧ V.slots[2 * j + 1]? = some (.int (hi8 (f j)))) ∧ ∃ j, j < n ∧ 255 < f j)
/-- **x is a String of the n chars f 0 .. f (n - 1)**, Latin-1 or UTF-16; its array at t has the cell V -/
def Txt (x t : Addr) (V : Cell) (cd : Int32) (n : Nat) (f : Nat → Int32) (U : State) : Prop := Exact "java/lang/String" x U ∧ Has x "java/lang/String" "value" "[B" (.ref t) U ∧ Has x "java/lang/String" "coder" "B" (.int cd) U ∧ XT.Arr .byte t V U ∧ Cod cd n f V ∧ ∀ j, j < n → ¬ f j < 0 ∧ ¬ 65535 < f j
theorem Txt.mv {x t : Addr} {V : Cell} {cd : Int32} {n : Nat} {f : Nat → Int32} {U U' : State} (h : Txt x t V cd n f U) (hal : U.vm.Alike U'.vm) (hh : U'.heap = U.heap) : Txt x t V cd n f U' := ⟨h.1.mv hal hh, h.2.1.mv hal hh, h.2.2.1.mv hal hh, h.2.2.2.1.mv hal hh, h.2.2.2.2⟩
end StrChars
namespace StrChars.Road
open Jvm Sem ClassFile Op Lib Jvm.Stand Jvm.Free Jvm.Free.XT
open Jvm.Lib.Cold (StaticIs)
/-- the bytes of the chars cs, low before high -/
def wideBytes : List Int32 → List Value
  | [] => []
  | c :: cs => .int (lo8 c) :: .int (hi8 c) :: wideBytes cs
theorem wide_lo (d : Value) : ∀ (cs : List Int32) (j : Nat), j < cs.length → (wideBytes cs).getD (2 * j) d = .int (lo8 (cs.getD j 0))
  | [], j, h => absurd h (Nat.not_lt_zero j)
  | c :: cs, 0, _ => rfl
  | c :: cs, j + 1, h => by
    have q := wide_lo d cs j (by simpa using h)
    rw [show 2 * (j + 1) = 2 * j + 1 + 1 from by omega]
    simpa [wideBytes] using q
theorem wide_hi (d : Value) : ∀ (cs : List Int32) (j : Nat), j < cs.length → (wideBytes cs).getD (2 * j + 1) d = .int (hi8 (cs.getD j 0))
  | [], j, h => absurd h (Nat.not_lt_zero j)
  | c :: cs, 0, _ => rfl
  | c :: cs, j + 1, h => by
    have q := wide_hi d cs j (by simpa using h)
    rw [show 2 * (j + 1) + 1 = 2 * j + 1 + 1 + 1 from by omega]
    simpa [wideBytes] using q
theorem low_at (d : Value) (cs : List Int32) (j : Nat) (h : j < cs.length) : (cs.map fun c => Value.int (lo8 c)).getD j d = .int (lo8 (cs.getD j 0)) := by
  simp [List.getD_eq_getElem?_getD, h]
/-- an array of N2 bytes vs codes the chars cs by the coder cd -/
def CodA (cs : List Int32) (cd N2 : Int32) (vs : List Value) : Prop := (cd = 0 ∧ N2 = Int32.ofNat cs.length ∧ vs = (cs.map fun c => Value.int (lo8 c)) ∧ ∀ c ∈ cs, ¬ 255 < c) ∨ (cd = 1 ∧ N2 = Int32.ofNat (2 * cs.length) ∧ vs = wideBytes cs ∧ ∃ c ∈ cs, 255 < c)
theorem CodA.cod {cs : List Int32} {cd N2 : Int32} {vs : List Value} {V : Cell} (h : CodA cs cd N2 vs) (hn : 2 * cs.length < 2 ^ 31) (hs : V.slots.size = N2.toNatClampNeg) (hv : RoadKit.Has V vs (.int 0)) : Cod cd cs.length (fun j => cs.getD j 0) V := by
  rcases h with ⟨rfl, rfl, rfl, h⟩ | ⟨rfl, rfl, rfl, c, hc, hw⟩
  · rw [n32 (by omega)] at hs
    exact Or.inl ⟨rfl, hs, fun j hj => ⟨by rw [hv j (by omega), low_at _ _ _ hj], by
      have e : cs.getD j 0 = cs[j] := by simp [List.getD_eq_getElem?_getD, hj]
      show ¬ 255 < cs.getD j 0
      rw [e]; exact h _ (List.getElem_mem _)⟩⟩
  · rw [n32 (by omega)] at hs
    obtain ⟨j, hj, rfl⟩ := List.getElem_of_mem hc
    exact Or.inr ⟨rfl, hs, fun j hj => ⟨by rw [hv _ (by omega), wide_lo _ _ _ hj], by rw [hv _ (by omega), wide_hi _ _ _ hj]⟩, j, hj, by
      have e : cs.getD j 0 = cs[j] := by simp [List.getD_eq_getElem?_getD, hj]
      show 255 < cs.getD j 0
      rw [e]; exact hw⟩
/-- an object of exactly java/lang/String, its two fields found: as the laws ask it -/
theorem strObj {Z U : State} {a0 : Array Value} {kI : Nat} (wi : (Jvm.Cond.instantiable ST kI).before a0 Z = true) (al : Z.vm.Alike U.vm) {x : Addr} {v0 c0 : Value} (E : RoadKit.Exa Z U.heap x ST) (V : RoadKit.Fld Z U.heap x ST "value" "[B" v0) (C : RoadKit.Fld Z U.heap x ST "coder" "B" c0) :
    ∃ (D : Cell) (fV fC : Field), Blank ST x D U ∧ Found ST "value" "[B" fV U ∧ Found ST "coder" "B" fC U ∧ D.slots[fV.slot]? = some v0 ∧ D.slots[fC.slot]? = some c0 ∧ RoadKit.slotOf Z ST "value" "[B" = fV.slot ∧ RoadKit.slotOf Z ST "coder" "B" = fC.slot := by
  obtain ⟨D, cfV, kV, iV, fV, hD, gV, stV, knV, obV, asV, slV⟩ := V
  obtain ⟨D', cfC, kC, iC, fC, hD', gC, stC, -, -, asC, slC⟩ := C
  cases hD.symm.trans hD'
  obtain ⟨D2, kD, e1, e2, e3, e4, e5⟩ := E
  cases hD.symm.trans e1
  obtain ⟨c2, k2, i1, i2, i3, -⟩ := Cond.instantiable_spec wi
  cases e2.symm.trans i1
  cases e3.symm.trans i2
  obtain ⟨kU, u1, u2⟩ := al.2.2 _ _ e3
  exact ⟨D, fV, fC, ⟨hD, ⟨knV, fun q hq => by rw [hq] at obV; cases obV⟩, by rw [al.findClass]; exact e2, kU, u1, by rw [u2]; exact i3, by rw [u2]; exact e5 i3⟩, ⟨SBG.found_only al ⟨cfV, kV, iV, gV⟩, stV⟩, ⟨SBG.found_only al ⟨cfC, kC, iC, gC⟩, stC⟩, slV, slC, by simp [RoadKit.slotOf, gV], by simp [RoadKit.slotOf, gC]⟩
end StrChars.Road
namespace StrChars
open Jvm Sem ClassFile Op Lib Jvm.Stand Jvm.Free.XT Jvm.Free.ALB Jvm.Free.JM Jvm.Free
open Jvm.Lib.Cold (StaticIs)
namespace Emp
def yN : MethodName := ⟨"java/lang/String", "isEmpty", "()Z"⟩
abbrev yB : ByteArray := jdk_42_method_55_code
theorem d0 : decode yB 0 = .ok (.aload_n 0, 1) := by decide +kernel
theorem d1 : decode yB 1 = .ok (.getfield 9, 3) := by decide +kernel
theorem d4 : decode yB 4 = .ok (.arraylength, 1) := by decide +kernel
theorem d5 : decode yB 5 = .ok (.ifCond (.ne) 7, 3) := by decide +kernel
theorem d8 : decode yB 8 = .ok (.iconst 1, 1) := by decide +kernel
theorem d9 : decode yB 9 = .ok (.goto 4, 3) := by decide +kernel
theorem d12 : decode yB 12 = .ok (.iconst 0, 1) := by decide +kernel
theorem d13 : decode yB 13 = .ok (.ireturn, 1) := by decide +kernel
def site : List Cond := [.fieldLink "java/lang/String" 9 "java/lang/String" "value" "[B"]
def tab : Cond := tabOf yN yB 1 (some .boolean) site
def P (x t : Addr) (V : Cell) (cd : Int32) (n : Nat) (f : Nat → Int32) (args : Array Value) (s : State) : Prop := args = #[.ref x] ∧ Txt x t V cd n f s
def E (n : Nat) (r : Option Value) (s u : State) : Prop := XT.PureE (some (.int (if n = 0 then 1 else 0))) r s u
/-- isEmpty() of a String of n chars -/
theorem law (l : Launch) (x t : Addr) (V : Cell) (cd : Int32) (n : Nat) (f : Nat → Int32) : Law l yN 1 0 0 0 yB 1 (some .boolean) site (P x t V cd n f) (E n) [] 0 0 := by
  refine Law.of_walk (plainFor_of_name (by decide +kernel)) (by decide +kernel) (by decide +kernel) (by decide) (fun _ _ h => by rw [h.1]; rfl) (fun _ U U' hal hh h => ⟨h.1, h.2.mv hal hh⟩) (fun r U U' V V' h1 hal h2 h => XT.PureE.mv r U U' V V' h1 hal h2 h) ?_
  intro p e s m args below meth c s₁ X0 hexec hbytes hml hret hlk hnm hown hh0 W hP
  obtain ⟨rfl, hx⟩ := hP
  have v31 := hx.2.2.2.1.2.2.2
  have c1 : Steps p.tables e below (s₁.setTop (entryFrame m #[.ref x] 1)) (s₁.setTop (mkF m 1 #[.val (.ref x)] [.ref x])) := Steps.trans (entry rfl) (by
    show Steps p.tables e below (s₁.setTop (mkF m 0 #[.val (.ref x)] [])) _
    refine XS.aloadN X0.here hexec rfl (hb hbytes d0) rfl rfl ?_
    exact Steps.refl _)
  obtain ⟨T2, X2, q2, st2⟩ := X0.hget hexec hown (wk W (.fieldLink "java/lang/String" 9 "java/lang/String" "value" "[B")) (hx.mv X0.warmed.alike hh0).2.1 (g := (mkF m 1 #[.val (.ref x)] [.ref x])) rfl (rest := []) rfl (hb hbytes d1)
  have hh2 := q2.trans hh0
  have hx2 := hx.mv X2.warmed.alike hh2
  have c3 : Steps p.tables e below (s₁.setTop (entryFrame m #[.ref x] 1)) (T2.setTop (mkF m 5 #[.val (.ref x)] [.int (Int32.ofNat V.slots.size)])) := (c1.trans (st2 _ (Steps.refl _))).trans (by
    refine X2.alen hexec hx2.2.2.2.1 rfl rfl (hb hbytes d4) ?_
    exact Steps.refl _)
  have hz : V.slots.size = 0 ↔ n = 0 := by
    rcases hx.2.2.2.2.1 with ⟨-, q, -⟩ | ⟨-, q, -⟩ <;> omega
  by_cases h0 : n = 0
  · have c4 : Steps p.tables e below (s₁.setTop (entryFrame m #[.ref x] 1)) (T2.setTop (mkF m 13 #[.val (.ref x)] [.int 1])) := c3.trans (by
      refine XS.ifNo X2.here hexec rfl (hb hbytes d5) rfl (i0_ne_f (by rw [hz.mpr h0]; rfl)) ?_
      refine iconstV X2.here hexec rfl 1 (hb hbytes d8) (by decide) ?_
      refine XS.goto X2.here hexec rfl (pc0 := 9) rfl (hb hbytes d9) (by decide) rfl ?_
      exact Steps.refl _)
    exact ⟨T2, some (.int 1), _, _, _, X2, rfl, rfl, rfl, (fun h => by cases h), ⟨by rw [if_pos h0], hh2⟩, fun fs hl => c4.trans (X2.ireturnOut hexec hret rfl (Or.inr (Or.inl rfl)) (hb hbytes d13) hl)⟩
  · have c4 : Steps p.tables e below (s₁.setTop (entryFrame m #[.ref x] 1)) (T2.setTop (mkF m 13 #[.val (.ref x)] [.int 0])) := c3.trans (by
      refine XS.ifYes X2.here hexec rfl (pc0 := 5) rfl (hb hbytes d5) rfl (i0_ne_t (nz32 v31 (by omega))) (by decide) rfl ?_
      refine iconstV X2.here hexec rfl 0 (hb hbytes d12) (by decide) ?_
      exact Steps.refl _)
    exact ⟨T2, some (.int 0), _, _, _, X2, rfl, rfl, rfl, (fun h => by cases h), ⟨by rw [if_neg h0], hh2⟩, fun fs hl => c4.trans (X2.ireturnOut hexec hret rfl (Or.inr (Or.inl rfl)) (hb hbytes d13) hl)⟩
theorem pays {l : Launch} {R : Room} {p : Program} {e : Env} {below : List Frame} {s : State} {sargs : Array Value} {len W : Nat} (x t : Addr) (V : Cell) (cd : Int32) (n : Nat) (f : Nat → Int32) (htab : tab.before sargs s = true) (hfr : 1 ≤ R.frames) (hlo : W + 12 ≤ R.locals) :
    Back l R p e below s sargs yN len W (fun A₁ a₁ => A₁.cells + 0 ≤ R.cells ∧ A₁.slots + 0 ≤ R.slots ∧ P x t V cd n f a₁ A₁.U) (fun A₁ _ v₁ B₁ => E n v₁ A₁.U B₁.U ∧ B₁.locs = A₁.locs ++ [] ∧ B₁.cells = A₁.cells + 0 ∧ B₁.slots = A₁.slots + 0) :=
  (law l x t V cd n f).pays htab hfr (by omega)
end Emp
end StrChars
namespace StrChars.Road
open Jvm Sem ClassFile Op Lib Jvm.Stand Jvm.Free Jvm.Free.XT
open Jvm.Lib.Cold (StaticIs)
/-- the words of String.isEmpty() -/
abbrev wordsEmp : List Jvm.Cond := [.code Emp.yN Emp.yB 1 (some .boolean), .initialized ST, .fieldLink ST 9 ST "value" "[B"]
theorem tabEmp_of {a : Array Value} {s : State} (h : ∀ w ∈ wordsEmp, w.before a s = true) : Emp.tab.before a s = true := unparts (wk h (.code Emp.yN Emp.yB 1 (some .boolean))) (wks h (.initialized Emp.yN.cls :: Emp.site))
theorem movedEmp {Z s : State} {a0 args : Array Value} (hZ : Z.Warmed39 s.vm) (hw : ∀ d ∈ wordsEmp, d.before a0 Z = true) : ∀ d ∈ wordsEmp, d.before args s = true := fun d hd => by
  have t : ∀ d ∈ wordsEmp, (d.onTables && d.keepsFace) = true := by decide +kernel
  exact RoadKit.mv hZ (hw d hd) (t d hd)
/-- the road's facts of a String, as the laws ask it -/
theorem txt_of {Z U : State} {a0 : Array Value} {kI : Nat} (wi : (Jvm.Cond.instantiable ST kI).before a0 Z = true) (al : Z.vm.Alike U.vm) {x t : Addr} {kb : ClassId} {cs : List Int32} {cd N2 : Int32} {vs : List Value} (E : RoadKit.Exa Z U.heap x ST) (V : RoadKit.Fld Z U.heap x ST "value" "[B" (.ref t)) (C : RoadKit.Fld Z U.heap x ST "coder" "B" (.int cd)) (K : RoadKit.Arv Z U.heap t kb .byte N2 vs (.int 0)) (hc : CodA cs cd N2 vs) (hb : ∀ c ∈ cs, ¬ c < 0 ∧ ¬ (65535 : Int32) < c) (l2 : cs.length ≤ 4000) :
    ∃ A, Txt x t A cd cs.length (fun j => cs.getD j 0) U := by
  obtain ⟨A, K1, K2, K3, K4, K5, K6⟩ := K
  have hcod := hc.cod (by omega) K3 K5
  obtain ⟨D, fV, fC, hB, F1, F2, g1, g2, -, -⟩ := strObj wi al E V C
  exact ⟨A, ⟨_, hB.2.2.1, D, hB.1, rfl, by cases q : D.vm <;> first | rfl | exact absurd q (hB.2.1.2 _)⟩, Has.of hB F1 g1, Has.of hB F2 g2, ⟨K1.1, State.isArrayOf_alike al K1.2.1, K1.2.2, by rcases hcod with ⟨-, q, -⟩ | ⟨-, q, -⟩ <;> omega⟩, hcod, fun j hj => by
    have e : cs.getD j 0 = cs[j] := by simp [List.getD_eq_getElem?_getD, hj]
    show ¬ cs.getD j 0 < 0 ∧ ¬ 65535 < cs.getD j 0
    rw [e]; exact hb _ (List.getElem_mem _)⟩
/-- **isEmpty() OF SUCH A STRING** -/
theorem empW {p : Program} {l : Launch} {e : Env} {R : Room} {s : State} {args : Array Value} {below : List Frame} {len W : Nat} {Z : State} {a0 : Array Value} {h : Heap} (hZ : Z.Warmed39 s.vm) (hw : ∀ d ∈ wordsEmp, d.before a0 Z = true) {kI : Nat} (wi : (Jvm.Cond.instantiable ST kI).before a0 Z = true)
    {x t : Addr} {kb : ClassId} {cs : List Int32} {cd N2 : Int32} {vs : List Value} (E : RoadKit.Exa Z h x ST) (V : RoadKit.Fld Z h x ST "value" "[B" (.ref t)) (C : RoadKit.Fld Z h x ST "coder" "B" (.int cd)) (K : RoadKit.Arv Z h t kb .byte N2 vs (.int 0)) (hc : CodA cs cd N2 vs) (hb : ∀ c ∈ cs, ¬ c < 0 ∧ ¬ (65535 : Int32) < c) (l2 : cs.length ≤ 4000) (hfr : 1 ≤ R.frames) (hlo : W + 12 ≤ R.locals) :
    Back l R p e below s args (⟨"java/lang/String", "isEmpty", "()Z"⟩ : MethodName) len W (fun P a => a = #[.ref x] ∧ P.U.heap = h ∧ P.cells + 0 ≤ R.cells ∧ P.slots + 0 ≤ R.slots)
      (fun P _ v B => ∃ L, (v = some (.int (if cs.length = 0 then 1 else 0)) ∧ L = [] ∧ B.U.heap = h) ∧ B.locs = P.locs ++ L ∧ B.cells = P.cells + 0 ∧ B.slots = P.slots + 0) := by
  intro m meth c P g ig mk a X hg hsize hdg hW hn hp'
  obtain ⟨rfl, rfl, r1, r2⟩ := hp'
  have al : Z.vm.Alike P.U.vm := hZ.alike.trans X.warmed.alike
  obtain ⟨A, hx⟩ := txt_of wi al E V C K hc hb l2
  obtain ⟨v, B, X', ⟨⟨hv, hh⟩, hl, hk, hs⟩, st⟩ := Emp.pays x t A cd cs.length (fun j => cs.getD j 0) (tabEmp_of (movedEmp hZ hw)) hfr hlo m meth c P g ig mk _ X hg hsize hdg hW hn ⟨r1, r2, rfl, hx⟩
  exact ⟨v, B, X', ⟨[], ⟨hv, rfl, hh⟩, hl, hk, hs⟩, st⟩
end StrChars.Road
namespace StrChars.Road
open Jvm Sem ClassFile Op Lib Jvm.Stand Jvm.Free Jvm.Free.XT
open Jvm.Lib.Cold (StaticIs)
/-- what backV says of its String, as the contracts of this text ask it: cs's low bytes, coder 0 -/
theorem codOf {cs : List Int32} {n : Nat} (hn : cs.length = n) (hb : ∀ c ∈ cs, ¬ 255 < c) : CodA cs 0 (Int32.ofNat n) ((cs.map lo8).map Value.int) := Or.inl ⟨rfl, by rw [hn], by simp [List.map_map, Function.comp_def], hb⟩
end StrChars.Road
end Jvm.Pilot.@@N@@
namespace Jvm.RoadKit
open Sem ClassFile Op Lib Jvm.Stand Jvm.Free Jvm.LawKit
section New
variable {p : Program} {l : Launch} {e : Env} {R : Room} {s : State} {m : MethodId} {args : Array Value} {below : List Frame} {meth : Method} {c : Code} {T : State} {locs : List Loc} {cells slots : Nat}
theorem retI (X : Stand p l e R s m args below meth c T locs cells slots) (hx : p.tables.exec = Jvm.exec) {pc : Nat} {Ls : Array Slot} {z : Int32} {rest : List Value} (hret : meth.sig.returnType = some .int) (hd : decode c.code pc = .ok (.ireturn, 1)) {fs : List Frame}
    (hl : ∀ (f : JFrame) (acts : List Action), f.method = m → f.locked = none → f.entered = [] → (doReturn e (T.setTop f) acts (some (.int z))).1 = T.setFrames fs) : Steps p.tables e below (T.setTop (mkF m pc Ls (.int z :: rest))) (T.setFrames fs) := by
  have hm' : T.vm.method? m = some meth := X.method'
  have hn : narrow .int (.int z) = .int z := rfl
  show Steps p.tables e below (T.setTop { method := m, pc := pc, locals := Ls, stack := _ :: rest, locked := none }) _
  jvm_step X.here [X.here.top, hx, hd, hm', hret, hn]
  first | (intro acts; rw [hl _ acts rfl rfl rfl]) | rw [hl _ _ rfl rfl rfl]
  exact Steps.refl _
end New
end Jvm.RoadKit
namespace Jvm.Pilot.@@N@@
open Jvm Jvm.ClassFile Sem Op Lib Jvm.Free Jvm.Stand Jvm.LawKit Jvm.RoadKit Bundle Jvm.Pilot.@@N@@.Jvm.D
/-- where the walk stands, and what is still to come of it -/
abbrev Go (tb : Tables) (e : Env) (below : List Frame) (P : State → Outcome → Prop) (σ : State) : Prop := ∃ s₂ o, Steps tb e below σ s₂ ∧ P s₂ o
theorem go_st {tb : Tables} {e : Env} {below : List Frame} {P : State → Outcome → Prop} {σ σ' : State} (st : ∀ t, Steps tb e below σ' t → Steps tb e below σ t) (k : Go tb e below P σ') : Go tb e below P σ := by
  obtain ⟨a, b, c, d⟩ := k; exact ⟨a, b, st _ c, d⟩
theorem go_tr {tb : Tables} {e : Env} {below : List Frame} {P : State → Outcome → Prop} {σ σ' : State} (st : Steps tb e below σ σ') (k : Go tb e below P σ') : Go tb e below P σ := by
  obtain ⟨a, b, c, d⟩ := k; exact ⟨a, b, st.trans c, d⟩
theorem go_named {tb : Tables} {e : Env} {below : List Frame} {P : State → Outcome → Prop} {σ : State} (k : ∀ P', P' = P → Go tb e below P' σ) : Go tb e below P σ := k P rfl
theorem ext_rfl (h : Heap) : Ext h h := ⟨Nat.le_refl _, fun _ _ q => q⟩
theorem ext_tr {h h' h'' : Heap} (E : Ext h h') (E' : Ext h' h'') : Ext h h'' := ⟨Nat.le_trans E.1 E'.1, fun a c q => E'.2 a c (E.2 a c q)⟩
theorem ext_keep {h h' h'' : Heap} {ws : List Addr} (E : Ext h h') (K : Keep h' h'' ws) (q : ∀ x ∈ ws, h.size ≤ x) : Ext h h'' :=
  ⟨Nat.le_trans E.1 K.1, fun a c r => K.2.1 a c (E.2 a c r) fun z => absurd (Array.getElem?_eq_some_iff.mp r).1 (Nat.not_lt.mpr (q a z))⟩
theorem ext_wr {h h' h'' : Heap} {b : Addr} {sl : Nat} {v : Value} (E : Ext h h') (W : Wr h' h'' b sl v) (q : h.size ≤ b) : Ext h h'' := ext_keep E (Keep.of_wr W) (allS q all0)
theorem keep_of_ext {h h' : Heap} (E : Ext h h') : Keep h h' [] := (Keep.refl h []).ext E
theorem ref_cat {v : Value} (h : v.isRef = true) : v.category = 1 := by rcases ref_cases h with rfl | ⟨a, rfl⟩ <;> rfl
theorem ref_fits {v : Value} (C : String) (h : v.isRef = true) : fits (.object C) v = true := by rcases ref_cases h with rfl | ⟨a, rfl⟩ <;> rfl
theorem ref_narrow {v : Value} (C : String) (h : v.isRef = true) : narrow (.object C) v = v := by rcases ref_cases h with rfl | ⟨a, rfl⟩ <;> rfl
theorem w56 {Z : State} {a0 : Array Value} (hw : ∀ d ∈ tables_1, d.before a0 Z = true) : (Jvm.Cond.stringLink "com/example/credence/credence/LogonSendsNothingPinLaw" (7 : Nat) "").before a0 Z = true := hw _ (List.mem_of_getElem? (i := 56) rfl)
theorem pn_java_lang_Record : plainName "java/lang/Record" = true := by first | (simp [plainName, overriddenIn]; done) | decide +kernel
theorem d0_0 : decode jdk_30_method_1_code 0 = .ok (.aload_n 0, 1) := by decide +kernel
theorem d0_1 : decode jdk_30_method_1_code 1 = .ok (.invokespecial 1, 3) := by decide +kernel
theorem w51 {Z : State} {a0 : Array Value} (hw : ∀ d ∈ tables_1, d.before a0 Z = true) : (Jvm.Cond.methodLink "java/lang/Record" (1 : Nat) ({ cls := "java/lang/Object", name := "<init>", desc := "()V" } : Jvm.MethodName)).before a0 Z = true := hw _ (List.mem_of_getElem? (i := 51) rfl)
theorem w16 {Z : State} {a0 : Array Value} (hw : ∀ d ∈ tables_1, d.before a0 Z = true) : (Jvm.Cond.instanceMethod ({ cls := "java/lang/Object", name := "<init>", desc := "()V" } : Jvm.MethodName)).before a0 Z = true := hw _ (List.mem_of_getElem? (i := 16) rfl)
theorem w17 {Z : State} {a0 : Array Value} (hw : ∀ d ∈ tables_1, d.before a0 Z = true) : (Jvm.Cond.code ({ cls := "java/lang/Object", name := "<init>", desc := "()V" } : Jvm.MethodName) object_method_1_code (1 : Nat) (Option.none : Option Jvm.ClassFile.FieldType)).before a0 Z = true := hw _ (List.mem_of_getElem? (i := 17) rfl)
theorem d0_4 : decode jdk_30_method_1_code 4 = .ok (.return_, 1) := by decide +kernel
theorem pn_com_example_credence_credence_Credentials : plainName "com/example/credence/credence/Credentials" = true := by first | (simp [plainName, overriddenIn]; done) | decide +kernel
theorem d1_0 : decode prog_3_method_1_code 0 = .ok (.aload_n 0, 1) := by decide +kernel
theorem d1_1 : decode prog_3_method_1_code 1 = .ok (.invokespecial 1, 3) := by decide +kernel
theorem w50 {Z : State} {a0 : Array Value} (hw : ∀ d ∈ tables_1, d.before a0 Z = true) : (Jvm.Cond.code ({ cls := "java/lang/Record", name := "<init>", desc := "()V" } : Jvm.MethodName) jdk_30_method_1_code (1 : Nat) (Option.none : Option Jvm.ClassFile.FieldType)).before a0 Z = true := hw _ (List.mem_of_getElem? (i := 50) rfl)
theorem w49 {Z : State} {a0 : Array Value} (hw : ∀ d ∈ tables_1, d.before a0 Z = true) : (Jvm.Cond.initialized "java/lang/Record").before a0 Z = true := hw _ (List.mem_of_getElem? (i := 49) rfl)
theorem pd_0 : parseMethodDescriptor "()V" = some ⟨[], none⟩ := by decide +kernel
theorem w46 {Z : State} {a0 : Array Value} (hw : ∀ d ∈ tables_1, d.before a0 Z = true) : (Jvm.Cond.methodLink "com/example/credence/credence/Credentials" (1 : Nat) ({ cls := "java/lang/Record", name := "<init>", desc := "()V" } : Jvm.MethodName)).before a0 Z = true := hw _ (List.mem_of_getElem? (i := 46) rfl)
theorem w47 {Z : State} {a0 : Array Value} (hw : ∀ d ∈ tables_1, d.before a0 Z = true) : (Jvm.Cond.instanceMethod ({ cls := "java/lang/Record", name := "<init>", desc := "()V" } : Jvm.MethodName)).before a0 Z = true := hw _ (List.mem_of_getElem? (i := 47) rfl)
theorem d1_4 : decode prog_3_method_1_code 4 = .ok (.aload_n 0, 1) := by decide +kernel
theorem d1_5 : decode prog_3_method_1_code 5 = .ok (.aload_n 1, 1) := by decide +kernel
theorem d1_6 : decode prog_3_method_1_code 6 = .ok (.putfield 7, 3) := by decide +kernel
theorem w52 {Z : State} {a0 : Array Value} (hw : ∀ d ∈ tables_1, d.before a0 Z = true) : (Jvm.Cond.fieldLink "com/example/credence/credence/Credentials" (7 : Nat) "com/example/credence/credence/Credentials" "username" "Ljava/lang/String;").before a0 Z = true := hw _ (List.mem_of_getElem? (i := 52) rfl)
theorem w53 {Z : State} {a0 : Array Value} (hw : ∀ d ∈ tables_1, d.before a0 Z = true) : (Jvm.Cond.laysFinal "com/example/credence/credence/Credentials" "com/example/credence/credence/Credentials" "username" "Ljava/lang/String;").before a0 Z = true := hw _ (List.mem_of_getElem? (i := 53) rfl)
theorem w38 {Z : State} {a0 : Array Value} (hw : ∀ d ∈ tables_1, d.before a0 Z = true) : (Jvm.Cond.instantiable "com/example/credence/credence/Credentials" (2 : Nat)).before a0 Z = true := hw _ (List.mem_of_getElem? (i := 38) rfl)
theorem d1_9 : decode prog_3_method_1_code 9 = .ok (.aload_n 0, 1) := by decide +kernel
theorem d1_10 : decode prog_3_method_1_code 10 = .ok (.aload_n 2, 1) := by decide +kernel
theorem d1_11 : decode prog_3_method_1_code 11 = .ok (.putfield 13, 3) := by decide +kernel
theorem w54 {Z : State} {a0 : Array Value} (hw : ∀ d ∈ tables_1, d.before a0 Z = true) : (Jvm.Cond.fieldLink "com/example/credence/credence/Credentials" (13 : Nat) "com/example/credence/credence/Credentials" "password" "Ljava/lang/String;").before a0 Z = true := hw _ (List.mem_of_getElem? (i := 54) rfl)
theorem w55 {Z : State} {a0 : Array Value} (hw : ∀ d ∈ tables_1, d.before a0 Z = true) : (Jvm.Cond.laysFinal "com/example/credence/credence/Credentials" "com/example/credence/credence/Credentials" "password" "Ljava/lang/String;").before a0 Z = true := hw _ (List.mem_of_getElem? (i := 55) rfl)
theorem d1_14 : decode prog_3_method_1_code 14 = .ok (.return_, 1) := by decide +kernel
theorem d2_0 : decode prog_3_method_3_code 0 = .ok (.aload_n 0, 1) := by decide +kernel
theorem d2_1 : decode prog_3_method_3_code 1 = .ok (.getfield 7, 3) := by decide +kernel
theorem d2_4 : decode prog_3_method_3_code 4 = .ok (.ifnull 13, 3) := by decide +kernel
theorem d2_17 : decode prog_3_method_3_code 17 = .ok (.aload_n 0, 1) := by decide +kernel
theorem d2_18 : decode prog_3_method_3_code 18 = .ok (.getfield 13, 3) := by decide +kernel
theorem d2_21 : decode prog_3_method_3_code 21 = .ok (.ifnull 13, 3) := by decide +kernel
theorem d2_34 : decode prog_3_method_3_code 34 = .ok (.iconst 1, 1) := by decide +kernel
theorem d2_35 : decode prog_3_method_3_code 35 = .ok (.goto 4, 3) := by decide +kernel
theorem d2_39 : decode prog_3_method_3_code 39 = .ok (.ireturn, 1) := by decide +kernel
theorem d2_24 : decode prog_3_method_3_code 24 = .ok (.aload_n 0, 1) := by decide +kernel
theorem d2_25 : decode prog_3_method_3_code 25 = .ok (.getfield 13, 3) := by decide +kernel
theorem d2_28 : decode prog_3_method_3_code 28 = .ok (.invokevirtual 16, 3) := by decide +kernel
theorem w5 {Z : State} {a0 : Array Value} (hw : ∀ d ∈ tables_1, d.before a0 Z = true) : (Jvm.Cond.instantiable "java/lang/String" (4 : Nat)).before a0 Z = true := hw _ (List.mem_of_getElem? (i := 5) rfl)
theorem pd_1 : parseMethodDescriptor "()Z" = some ⟨[], some .boolean⟩ := by decide +kernel
theorem w99 {Z : State} {a0 : Array Value} (hw : ∀ d ∈ tables_1, d.before a0 Z = true) : (Jvm.Cond.methodLink "com/example/credence/credence/Credentials" (16 : Nat) ({ cls := "java/lang/String", name := "isEmpty", desc := "()Z" } : Jvm.MethodName)).before a0 Z = true := hw _ (List.mem_of_getElem? (i := 99) rfl)
theorem w89 {Z : State} {a0 : Array Value} (hw : ∀ d ∈ tables_1, d.before a0 Z = true) : (Jvm.Cond.selects "java/lang/String" ({ cls := "java/lang/String", name := "isEmpty", desc := "()Z" } : Jvm.MethodName) ({ cls := "java/lang/String", name := "isEmpty", desc := "()Z" } : Jvm.MethodName)).before a0 Z = true := hw _ (List.mem_of_getElem? (i := 89) rfl)
theorem w87 {Z : State} {a0 : Array Value} (hw : ∀ d ∈ tables_1, d.before a0 Z = true) : (Jvm.Cond.declares ({ cls := "java/lang/String", name := "isEmpty", desc := "()Z" } : Jvm.MethodName)).before a0 Z = true := hw _ (List.mem_of_getElem? (i := 87) rfl)
theorem w88 {Z : State} {a0 : Array Value} (hw : ∀ d ∈ tables_1, d.before a0 Z = true) : (Jvm.Cond.instanceMethod ({ cls := "java/lang/String", name := "isEmpty", desc := "()Z" } : Jvm.MethodName)).before a0 Z = true := hw _ (List.mem_of_getElem? (i := 88) rfl)
theorem d2_31 : decode prog_3_method_3_code 31 = .ok (.ifCond .eq 7, 3) := by decide +kernel
theorem d2_38 : decode prog_3_method_3_code 38 = .ok (.iconst 0, 1) := by decide +kernel
theorem d2_7 : decode prog_3_method_3_code 7 = .ok (.aload_n 0, 1) := by decide +kernel
theorem d2_8 : decode prog_3_method_3_code 8 = .ok (.getfield 7, 3) := by decide +kernel
theorem d2_11 : decode prog_3_method_3_code 11 = .ok (.invokevirtual 16, 3) := by decide +kernel
theorem d2_14 : decode prog_3_method_3_code 14 = .ok (.ifCond .eq 24, 3) := by decide +kernel
theorem pn_com_example_credence_credence_LogonSendsNothingPinLaw : plainName "com/example/credence/credence/LogonSendsNothingPinLaw" = true := by first | (simp [plainName, overriddenIn]; done) | decide +kernel
theorem d3_0 : decode method_2_code 0 = .ok (.iload_n 0, 1) := by decide +kernel
theorem d3_1 : decode method_2_code 1 = .ok (.iconst 3, 1) := by decide +kernel
theorem d3_2 : decode method_2_code 2 = .ok (.iand, 1) := by decide +kernel
theorem d3_3 : decode method_2_code 3 = .ok (.istore_n 1, 1) := by decide +kernel
theorem d3_4 : decode method_2_code 4 = .ok (.iload_n 0, 1) := by decide +kernel
theorem d3_5 : decode method_2_code 5 = .ok (.bipush 8, 2) := by decide +kernel
theorem d3_7 : decode method_2_code 7 = .ok (.iushr, 1) := by decide +kernel
theorem d3_8 : decode method_2_code 8 = .ok (.sipush 255, 3) := by decide +kernel
theorem d3_11 : decode method_2_code 11 = .ok (.iand, 1) := by decide +kernel
theorem d3_12 : decode method_2_code 12 = .ok (.i2c, 1) := by decide +kernel
theorem d3_13 : decode method_2_code 13 = .ok (.istore_n 2, 1) := by decide +kernel
theorem d3_14 : decode method_2_code 14 = .ok (.iload_n 0, 1) := by decide +kernel
theorem d3_15 : decode method_2_code 15 = .ok (.bipush 16, 2) := by decide +kernel
theorem d3_17 : decode method_2_code 17 = .ok (.iushr, 1) := by decide +kernel
theorem d3_18 : decode method_2_code 18 = .ok (.sipush 255, 3) := by decide +kernel
theorem d3_21 : decode method_2_code 21 = .ok (.iand, 1) := by decide +kernel
theorem d3_22 : decode method_2_code 22 = .ok (.i2c, 1) := by decide +kernel
theorem d3_23 : decode method_2_code 23 = .ok (.istore_n 3, 1) := by decide +kernel
theorem d3_24 : decode method_2_code 24 = .ok (.iload_n 1, 1) := by decide +kernel
theorem d3_25 : decode method_2_code 25 = .ok (.ifCond .ne 5, 3) := by decide +kernel
theorem d3_28 : decode method_2_code 28 = .ok (.aconst_null, 1) := by decide +kernel
theorem d3_29 : decode method_2_code 29 = .ok (.areturn, 1) := by decide +kernel
theorem d3_30 : decode method_2_code 30 = .ok (.iload_n 1, 1) := by decide +kernel
theorem d3_31 : decode method_2_code 31 = .ok (.iconst 1, 1) := by decide +kernel
theorem d3_32 : decode method_2_code 32 = .ok (.if_icmp .ne 6, 3) := by decide +kernel
theorem d3_35 : decode method_2_code 35 = .ok (.ldc 7, 2) := by decide +kernel
theorem d3_37 : decode method_2_code 37 = .ok (.areturn, 1) := by decide +kernel
theorem d3_38 : decode method_2_code 38 = .ok (.iload_n 1, 1) := by decide +kernel
theorem d3_39 : decode method_2_code 39 = .ok (.iconst 2, 1) := by decide +kernel
theorem d3_40 : decode method_2_code 40 = .ok (.if_icmp .ne 18, 3) := by decide +kernel
theorem d3_43 : decode method_2_code 43 = .ok (.new 9, 3) := by decide +kernel
theorem w4 {Z : State} {a0 : Array Value} (hw : ∀ d ∈ tables_1, d.before a0 Z = true) : (Jvm.Cond.classLink "com/example/credence/credence/LogonSendsNothingPinLaw" (9 : Nat) "java/lang/String").before a0 Z = true := hw _ (List.mem_of_getElem? (i := 4) rfl)
theorem w6 {Z : State} {a0 : Array Value} (hw : ∀ d ∈ tables_1, d.before a0 Z = true) : (Jvm.Cond.initialized "java/lang/String").before a0 Z = true := hw _ (List.mem_of_getElem? (i := 6) rfl)
theorem w31 {Z : State} {a0 : Array Value} (hw : ∀ d ∈ tables_1, d.before a0 Z = true) : (Jvm.Cond.laysFinal "java/lang/String" "java/lang/String" "coder" "B").before a0 Z = true := hw _ (List.mem_of_getElem? (i := 31) rfl)
theorem w33 {Z : State} {a0 : Array Value} (hw : ∀ d ∈ tables_1, d.before a0 Z = true) : (Jvm.Cond.laysFinal "java/lang/String" "java/lang/String" "value" "[B").before a0 Z = true := hw _ (List.mem_of_getElem? (i := 33) rfl)
theorem d3_46 : decode method_2_code 46 = .ok (.dup, 1) := by decide +kernel
theorem d3_47 : decode method_2_code 47 = .ok (.iconst 1, 1) := by decide +kernel
theorem d3_48 : decode method_2_code 48 = .ok (.newarray .char, 2) := by decide +kernel
theorem w7 {Z : State} {a0 : Array Value} (hw : ∀ d ∈ tables_1, d.before a0 Z = true) : (Jvm.Cond.arrayClass Jvm.ClassFile.FieldType.char).before a0 Z = true := hw _ (List.mem_of_getElem? (i := 7) rfl)
theorem d3_50 : decode method_2_code 50 = .ok (.dup, 1) := by decide +kernel
theorem d3_51 : decode method_2_code 51 = .ok (.iconst 0, 1) := by decide +kernel
theorem d3_52 : decode method_2_code 52 = .ok (.iload_n 2, 1) := by decide +kernel
theorem d3_53 : decode method_2_code 53 = .ok (.castore, 1) := by decide +kernel
theorem d3_54 : decode method_2_code 54 = .ok (.invokespecial 11, 3) := by decide +kernel
theorem pd_2 : parseMethodDescriptor "([C)V" = some ⟨[(.array .char)], none⟩ := by decide +kernel
theorem w8 {Z : State} {a0 : Array Value} (hw : ∀ d ∈ tables_1, d.before a0 Z = true) : (Jvm.Cond.methodLink "com/example/credence/credence/LogonSendsNothingPinLaw" (11 : Nat) ({ cls := "java/lang/String", name := "<init>", desc := "([C)V" } : Jvm.MethodName)).before a0 Z = true := hw _ (List.mem_of_getElem? (i := 8) rfl)
theorem w9 {Z : State} {a0 : Array Value} (hw : ∀ d ∈ tables_1, d.before a0 Z = true) : (Jvm.Cond.instanceMethod ({ cls := "java/lang/String", name := "<init>", desc := "([C)V" } : Jvm.MethodName)).before a0 Z = true := hw _ (List.mem_of_getElem? (i := 9) rfl)
theorem w10 {Z : State} {a0 : Array Value} (hw : ∀ d ∈ tables_1, d.before a0 Z = true) : (Jvm.Cond.code ({ cls := "java/lang/String", name := "<init>", desc := "([C)V" } : Jvm.MethodName) jdk_42_method_3_code (2 : Nat) (Option.none : Option Jvm.ClassFile.FieldType)).before a0 Z = true := hw _ (List.mem_of_getElem? (i := 10) rfl)
theorem d3_57 : decode method_2_code 57 = .ok (.areturn, 1) := by decide +kernel
theorem d3_58 : decode method_2_code 58 = .ok (.new 9, 3) := by decide +kernel
theorem d3_61 : decode method_2_code 61 = .ok (.dup, 1) := by decide +kernel
theorem d3_62 : decode method_2_code 62 = .ok (.iconst 2, 1) := by decide +kernel
theorem d3_63 : decode method_2_code 63 = .ok (.newarray .char, 2) := by decide +kernel
theorem d3_65 : decode method_2_code 65 = .ok (.dup, 1) := by decide +kernel
theorem d3_66 : decode method_2_code 66 = .ok (.iconst 0, 1) := by decide +kernel
theorem d3_67 : decode method_2_code 67 = .ok (.iload_n 2, 1) := by decide +kernel
theorem d3_68 : decode method_2_code 68 = .ok (.castore, 1) := by decide +kernel
theorem d3_69 : decode method_2_code 69 = .ok (.dup, 1) := by decide +kernel
theorem d3_70 : decode method_2_code 70 = .ok (.iconst 1, 1) := by decide +kernel
theorem d3_71 : decode method_2_code 71 = .ok (.iload_n 3, 1) := by decide +kernel
theorem d3_72 : decode method_2_code 72 = .ok (.castore, 1) := by decide +kernel
theorem d3_73 : decode method_2_code 73 = .ok (.invokespecial 11, 3) := by decide +kernel
theorem d3_76 : decode method_2_code 76 = .ok (.areturn, 1) := by decide +kernel
theorem d4_0 : decode method_4_code 0 = .ok (.iload_n 0, 1) := by decide +kernel
theorem d4_1 : decode method_4_code 1 = .ok (.iconst 2, 1) := by decide +kernel
theorem d4_2 : decode method_4_code 2 = .ok (.iushr, 1) := by decide +kernel
theorem d4_3 : decode method_4_code 3 = .ok (.iconst 3, 1) := by decide +kernel
theorem d4_4 : decode method_4_code 4 = .ok (.iand, 1) := by decide +kernel
theorem d4_5 : decode method_4_code 5 = .ok (.iload_n 0, 1) := by decide +kernel
theorem d4_6 : decode method_4_code 6 = .ok (.bipush 24, 2) := by decide +kernel
theorem d4_8 : decode method_4_code 8 = .ok (.iushr, 1) := by decide +kernel
theorem d4_9 : decode method_4_code 9 = .ok (.sipush 255, 3) := by decide +kernel
theorem d4_12 : decode method_4_code 12 = .ok (.iand, 1) := by decide +kernel
theorem d4_13 : decode method_4_code 13 = .ok (.bipush 8, 2) := by decide +kernel
theorem d4_15 : decode method_4_code 15 = .ok (.ishl, 1) := by decide +kernel
theorem d4_16 : decode method_4_code 16 = .ok (.ior, 1) := by decide +kernel
theorem d4_17 : decode method_4_code 17 = .ok (.ireturn, 1) := by decide +kernel
theorem d5_0 : decode method_3_code 0 = .ok (.iload_n 0, 1) := by decide +kernel
theorem d5_1 : decode method_3_code 1 = .ok (.iconst 3, 1) := by decide +kernel
theorem d5_2 : decode method_3_code 2 = .ok (.iand, 1) := by decide +kernel
theorem d5_3 : decode method_3_code 3 = .ok (.iconst 2, 1) := by decide +kernel
theorem d5_4 : decode method_3_code 4 = .ok (.if_icmp .lt 7, 3) := by decide +kernel
theorem d5_11 : decode method_3_code 11 = .ok (.iconst 0, 1) := by decide +kernel
theorem d5_12 : decode method_3_code 12 = .ok (.ireturn, 1) := by decide +kernel
theorem d5_7 : decode method_3_code 7 = .ok (.iconst 1, 1) := by decide +kernel
theorem d5_8 : decode method_3_code 8 = .ok (.goto 4, 3) := by decide +kernel
theorem d6_0 : decode method_6_code 0 = .ok (.iload_n 0, 1) := by decide +kernel
theorem d6_1 : decode method_6_code 1 = .ok (.bipush 16, 2) := by decide +kernel
theorem d6_3 : decode method_6_code 3 = .ok (.iand, 1) := by decide +kernel
theorem d6_4 : decode method_6_code 4 = .ok (.ifCond .eq 5, 3) := by decide +kernel
theorem d6_9 : decode method_6_code 9 = .ok (.iload_n 0, 1) := by decide +kernel
theorem d6_10 : decode method_6_code 10 = .ok (.invokestatic 29, 3) := by decide +kernel
theorem w80 {Z : State} {a0 : Array Value} (hw : ∀ d ∈ tables_1, d.before a0 Z = true) : (Jvm.Cond.code ({ cls := "com/example/credence/credence/LogonSendsNothingPinLaw", name := "sent", desc := "(I)Z" } : Jvm.MethodName) method_3_code (1 : Nat) (Option.some Jvm.ClassFile.FieldType.boolean)).before a0 Z = true := hw _ (List.mem_of_getElem? (i := 80) rfl)
theorem w2 {Z : State} {a0 : Array Value} (hw : ∀ d ∈ tables_1, d.before a0 Z = true) : (Jvm.Cond.initialized "com/example/credence/credence/LogonSendsNothingPinLaw").before a0 Z = true := hw _ (List.mem_of_getElem? (i := 2) rfl)
theorem pd_3 : parseMethodDescriptor "(I)Z" = some ⟨[.int], some .boolean⟩ := by decide +kernel
theorem w78 {Z : State} {a0 : Array Value} (hw : ∀ d ∈ tables_1, d.before a0 Z = true) : (Jvm.Cond.methodLink "com/example/credence/credence/LogonSendsNothingPinLaw" (29 : Nat) ({ cls := "com/example/credence/credence/LogonSendsNothingPinLaw", name := "sent", desc := "(I)Z" } : Jvm.MethodName)).before a0 Z = true := hw _ (List.mem_of_getElem? (i := 78) rfl)
theorem w79 {Z : State} {a0 : Array Value} (hw : ∀ d ∈ tables_1, d.before a0 Z = true) : (Jvm.Cond.static ({ cls := "com/example/credence/credence/LogonSendsNothingPinLaw", name := "sent", desc := "(I)Z" } : Jvm.MethodName)).before a0 Z = true := hw _ (List.mem_of_getElem? (i := 79) rfl)
theorem d6_13 : decode method_6_code 13 = .ok (.ifCond .ne 13, 3) := by decide +kernel
theorem d6_26 : decode method_6_code 26 = .ok (.iconst 1, 1) := by decide +kernel
theorem d6_27 : decode method_6_code 27 = .ok (.goto 4, 3) := by decide +kernel
theorem d6_31 : decode method_6_code 31 = .ok (.ireturn, 1) := by decide +kernel
theorem d6_16 : decode method_6_code 16 = .ok (.iload_n 0, 1) := by decide +kernel
theorem d6_17 : decode method_6_code 17 = .ok (.invokestatic 22, 3) := by decide +kernel
theorem w42 {Z : State} {a0 : Array Value} (hw : ∀ d ∈ tables_1, d.before a0 Z = true) : (Jvm.Cond.code ({ cls := "com/example/credence/credence/LogonSendsNothingPinLaw", name := "passwordCode", desc := "(I)I" } : Jvm.MethodName) method_4_code (1 : Nat) (Option.some Jvm.ClassFile.FieldType.int)).before a0 Z = true := hw _ (List.mem_of_getElem? (i := 42) rfl)
theorem pd_4 : parseMethodDescriptor "(I)I" = some ⟨[.int], some .int⟩ := by decide +kernel
theorem w40 {Z : State} {a0 : Array Value} (hw : ∀ d ∈ tables_1, d.before a0 Z = true) : (Jvm.Cond.methodLink "com/example/credence/credence/LogonSendsNothingPinLaw" (22 : Nat) ({ cls := "com/example/credence/credence/LogonSendsNothingPinLaw", name := "passwordCode", desc := "(I)I" } : Jvm.MethodName)).before a0 Z = true := hw _ (List.mem_of_getElem? (i := 40) rfl)
theorem w41 {Z : State} {a0 : Array Value} (hw : ∀ d ∈ tables_1, d.before a0 Z = true) : (Jvm.Cond.static ({ cls := "com/example/credence/credence/LogonSendsNothingPinLaw", name := "passwordCode", desc := "(I)I" } : Jvm.MethodName)).before a0 Z = true := hw _ (List.mem_of_getElem? (i := 41) rfl)
theorem d6_20 : decode method_6_code 20 = .ok (.invokestatic 29, 3) := by decide +kernel
theorem d6_23 : decode method_6_code 23 = .ok (.ifCond .eq 7, 3) := by decide +kernel
theorem d6_30 : decode method_6_code 30 = .ok (.iconst 0, 1) := by decide +kernel
theorem d6_7 : decode method_6_code 7 = .ok (.iconst 0, 1) := by decide +kernel
theorem d6_8 : decode method_6_code 8 = .ok (.ireturn, 1) := by decide +kernel
theorem d7_0 : decode method_5_code 0 = .ok (.iload_n 0, 1) := by decide +kernel
theorem d7_1 : decode method_5_code 1 = .ok (.bipush 16, 2) := by decide +kernel
theorem d7_3 : decode method_5_code 3 = .ok (.iand, 1) := by decide +kernel
theorem d7_4 : decode method_5_code 4 = .ok (.ifCond .eq 5, 3) := by decide +kernel
theorem d7_9 : decode method_5_code 9 = .ok (.new 14, 3) := by decide +kernel
theorem w37 {Z : State} {a0 : Array Value} (hw : ∀ d ∈ tables_1, d.before a0 Z = true) : (Jvm.Cond.classLink "com/example/credence/credence/LogonSendsNothingPinLaw" (14 : Nat) "com/example/credence/credence/Credentials").before a0 Z = true := hw _ (List.mem_of_getElem? (i := 37) rfl)
theorem w39 {Z : State} {a0 : Array Value} (hw : ∀ d ∈ tables_1, d.before a0 Z = true) : (Jvm.Cond.initialized "com/example/credence/credence/Credentials").before a0 Z = true := hw _ (List.mem_of_getElem? (i := 39) rfl)
theorem d7_12 : decode method_5_code 12 = .ok (.dup, 1) := by decide +kernel
theorem d7_13 : decode method_5_code 13 = .ok (.iload_n 0, 1) := by decide +kernel
theorem d7_14 : decode method_5_code 14 = .ok (.invokestatic 16, 3) := by decide +kernel
theorem w3 {Z : State} {a0 : Array Value} (hw : ∀ d ∈ tables_1, d.before a0 Z = true) : (Jvm.Cond.code ({ cls := "com/example/credence/credence/LogonSendsNothingPinLaw", name := "str", desc := "(I)Ljava/lang/String;" } : Jvm.MethodName) method_2_code (4 : Nat) (Option.some (Jvm.ClassFile.FieldType.object "java/lang/String"))).before a0 Z = true := hw _ (List.mem_of_getElem? (i := 3) rfl)
theorem pd_5 : parseMethodDescriptor "(I)Ljava/lang/String;" = some ⟨[.int], some (.object "java/lang/String")⟩ := by decide +kernel
theorem w0 {Z : State} {a0 : Array Value} (hw : ∀ d ∈ tables_1, d.before a0 Z = true) : (Jvm.Cond.methodLink "com/example/credence/credence/LogonSendsNothingPinLaw" (16 : Nat) ({ cls := "com/example/credence/credence/LogonSendsNothingPinLaw", name := "str", desc := "(I)Ljava/lang/String;" } : Jvm.MethodName)).before a0 Z = true := hw _ (List.mem_of_getElem? (i := 0) rfl)
theorem w1 {Z : State} {a0 : Array Value} (hw : ∀ d ∈ tables_1, d.before a0 Z = true) : (Jvm.Cond.static ({ cls := "com/example/credence/credence/LogonSendsNothingPinLaw", name := "str", desc := "(I)Ljava/lang/String;" } : Jvm.MethodName)).before a0 Z = true := hw _ (List.mem_of_getElem? (i := 1) rfl)
theorem d7_17 : decode method_5_code 17 = .ok (.iload_n 0, 1) := by decide +kernel
theorem d7_18 : decode method_5_code 18 = .ok (.invokestatic 22, 3) := by decide +kernel
theorem d7_21 : decode method_5_code 21 = .ok (.invokestatic 16, 3) := by decide +kernel
theorem d7_24 : decode method_5_code 24 = .ok (.invokespecial 26, 3) := by decide +kernel
theorem w45 {Z : State} {a0 : Array Value} (hw : ∀ d ∈ tables_1, d.before a0 Z = true) : (Jvm.Cond.code ({ cls := "com/example/credence/credence/Credentials", name := "<init>", desc := "(Ljava/lang/String;Ljava/lang/String;)V" } : Jvm.MethodName) prog_3_method_1_code (3 : Nat) (Option.none : Option Jvm.ClassFile.FieldType)).before a0 Z = true := hw _ (List.mem_of_getElem? (i := 45) rfl)
theorem pd_6 : parseMethodDescriptor "(Ljava/lang/String;Ljava/lang/String;)V" = some ⟨[(.object "java/lang/String"), (.object "java/lang/String")], none⟩ := by decide +kernel
theorem w43 {Z : State} {a0 : Array Value} (hw : ∀ d ∈ tables_1, d.before a0 Z = true) : (Jvm.Cond.methodLink "com/example/credence/credence/LogonSendsNothingPinLaw" (26 : Nat) ({ cls := "com/example/credence/credence/Credentials", name := "<init>", desc := "(Ljava/lang/String;Ljava/lang/String;)V" } : Jvm.MethodName)).before a0 Z = true := hw _ (List.mem_of_getElem? (i := 43) rfl)
theorem w44 {Z : State} {a0 : Array Value} (hw : ∀ d ∈ tables_1, d.before a0 Z = true) : (Jvm.Cond.instanceMethod ({ cls := "com/example/credence/credence/Credentials", name := "<init>", desc := "(Ljava/lang/String;Ljava/lang/String;)V" } : Jvm.MethodName)).before a0 Z = true := hw _ (List.mem_of_getElem? (i := 44) rfl)
theorem d7_27 : decode method_5_code 27 = .ok (.areturn, 1) := by decide +kernel
theorem d7_7 : decode method_5_code 7 = .ok (.aconst_null, 1) := by decide +kernel
theorem d7_8 : decode method_5_code 8 = .ok (.areturn, 1) := by decide +kernel
theorem pn_com_example_credence_credence_Logon : plainName "com/example/credence/credence/Logon" = true := by first | (simp [plainName, overriddenIn]; done) | decide +kernel
theorem d8_0 : decode prog_4_method_4_code 0 = .ok (.aload_n 0, 1) := by decide +kernel
theorem d8_1 : decode prog_4_method_4_code 1 = .ok (.invokespecial 1, 3) := by decide +kernel
theorem w65 {Z : State} {a0 : Array Value} (hw : ∀ d ∈ tables_1, d.before a0 Z = true) : (Jvm.Cond.methodLink "com/example/credence/credence/Logon" (1 : Nat) ({ cls := "java/lang/Record", name := "<init>", desc := "()V" } : Jvm.MethodName)).before a0 Z = true := hw _ (List.mem_of_getElem? (i := 65) rfl)
theorem d8_4 : decode prog_4_method_4_code 4 = .ok (.aload_n 0, 1) := by decide +kernel
theorem d8_5 : decode prog_4_method_4_code 5 = .ok (.aload_n 1, 1) := by decide +kernel
theorem d8_6 : decode prog_4_method_4_code 6 = .ok (.putfield 7, 3) := by decide +kernel
theorem w66 {Z : State} {a0 : Array Value} (hw : ∀ d ∈ tables_1, d.before a0 Z = true) : (Jvm.Cond.fieldLink "com/example/credence/credence/Logon" (7 : Nat) "com/example/credence/credence/Logon" "namespace" "Ljava/lang/String;").before a0 Z = true := hw _ (List.mem_of_getElem? (i := 66) rfl)
theorem w67 {Z : State} {a0 : Array Value} (hw : ∀ d ∈ tables_1, d.before a0 Z = true) : (Jvm.Cond.laysFinal "com/example/credence/credence/Logon" "com/example/credence/credence/Logon" "namespace" "Ljava/lang/String;").before a0 Z = true := hw _ (List.mem_of_getElem? (i := 67) rfl)
theorem w60 {Z : State} {a0 : Array Value} (hw : ∀ d ∈ tables_1, d.before a0 Z = true) : (Jvm.Cond.instantiable "com/example/credence/credence/Logon" (6 : Nat)).before a0 Z = true := hw _ (List.mem_of_getElem? (i := 60) rfl)
theorem d8_9 : decode prog_4_method_4_code 9 = .ok (.aload_n 0, 1) := by decide +kernel
theorem d8_10 : decode prog_4_method_4_code 10 = .ok (.aload_n 2, 1) := by decide +kernel
theorem d8_11 : decode prog_4_method_4_code 11 = .ok (.putfield 13, 3) := by decide +kernel
theorem w68 {Z : State} {a0 : Array Value} (hw : ∀ d ∈ tables_1, d.before a0 Z = true) : (Jvm.Cond.fieldLink "com/example/credence/credence/Logon" (13 : Nat) "com/example/credence/credence/Logon" "trustedCredential" "Ljava/lang/String;").before a0 Z = true := hw _ (List.mem_of_getElem? (i := 68) rfl)
theorem w69 {Z : State} {a0 : Array Value} (hw : ∀ d ∈ tables_1, d.before a0 Z = true) : (Jvm.Cond.laysFinal "com/example/credence/credence/Logon" "com/example/credence/credence/Logon" "trustedCredential" "Ljava/lang/String;").before a0 Z = true := hw _ (List.mem_of_getElem? (i := 69) rfl)
theorem d8_14 : decode prog_4_method_4_code 14 = .ok (.aload_n 0, 1) := by decide +kernel
theorem d8_15 : decode prog_4_method_4_code 15 = .ok (.aload_n 3, 1) := by decide +kernel
theorem d8_16 : decode prog_4_method_4_code 16 = .ok (.putfield 16, 3) := by decide +kernel
theorem w70 {Z : State} {a0 : Array Value} (hw : ∀ d ∈ tables_1, d.before a0 Z = true) : (Jvm.Cond.fieldLink "com/example/credence/credence/Logon" (16 : Nat) "com/example/credence/credence/Logon" "credentials" "Lcom/example/credence/credence/Credentials;").before a0 Z = true := hw _ (List.mem_of_getElem? (i := 70) rfl)
theorem w71 {Z : State} {a0 : Array Value} (hw : ∀ d ∈ tables_1, d.before a0 Z = true) : (Jvm.Cond.laysFinal "com/example/credence/credence/Logon" "com/example/credence/credence/Logon" "credentials" "Lcom/example/credence/credence/Credentials;").before a0 Z = true := hw _ (List.mem_of_getElem? (i := 71) rfl)
theorem d8_19 : decode prog_4_method_4_code 19 = .ok (.aload_n 0, 1) := by decide +kernel
theorem d8_20 : decode prog_4_method_4_code 20 = .ok (.aload 4, 2) := by decide +kernel
theorem d8_22 : decode prog_4_method_4_code 22 = .ok (.putfield 20, 3) := by decide +kernel
theorem w72 {Z : State} {a0 : Array Value} (hw : ∀ d ∈ tables_1, d.before a0 Z = true) : (Jvm.Cond.fieldLink "com/example/credence/credence/Logon" (20 : Nat) "com/example/credence/credence/Logon" "form" "Lcom/example/credence/credence/Credentials;").before a0 Z = true := hw _ (List.mem_of_getElem? (i := 72) rfl)
theorem w73 {Z : State} {a0 : Array Value} (hw : ∀ d ∈ tables_1, d.before a0 Z = true) : (Jvm.Cond.laysFinal "com/example/credence/credence/Logon" "com/example/credence/credence/Logon" "form" "Lcom/example/credence/credence/Credentials;").before a0 Z = true := hw _ (List.mem_of_getElem? (i := 73) rfl)
theorem d8_25 : decode prog_4_method_4_code 25 = .ok (.aload_n 0, 1) := by decide +kernel
theorem d8_26 : decode prog_4_method_4_code 26 = .ok (.aload 5, 2) := by decide +kernel
theorem d8_28 : decode prog_4_method_4_code 28 = .ok (.putfield 23, 3) := by decide +kernel
theorem w74 {Z : State} {a0 : Array Value} (hw : ∀ d ∈ tables_1, d.before a0 Z = true) : (Jvm.Cond.fieldLink "com/example/credence/credence/Logon" (23 : Nat) "com/example/credence/credence/Logon" "token" "Ljava/lang/String;").before a0 Z = true := hw _ (List.mem_of_getElem? (i := 74) rfl)
theorem w75 {Z : State} {a0 : Array Value} (hw : ∀ d ∈ tables_1, d.before a0 Z = true) : (Jvm.Cond.laysFinal "com/example/credence/credence/Logon" "com/example/credence/credence/Logon" "token" "Ljava/lang/String;").before a0 Z = true := hw _ (List.mem_of_getElem? (i := 75) rfl)
theorem d8_31 : decode prog_4_method_4_code 31 = .ok (.aload_n 0, 1) := by decide +kernel
theorem d8_32 : decode prog_4_method_4_code 32 = .ok (.aload 6, 2) := by decide +kernel
theorem d8_34 : decode prog_4_method_4_code 34 = .ok (.putfield 26, 3) := by decide +kernel
theorem w76 {Z : State} {a0 : Array Value} (hw : ∀ d ∈ tables_1, d.before a0 Z = true) : (Jvm.Cond.fieldLink "com/example/credence/credence/Logon" (26 : Nat) "com/example/credence/credence/Logon" "trusted" "Ljava/lang/String;").before a0 Z = true := hw _ (List.mem_of_getElem? (i := 76) rfl)
theorem w77 {Z : State} {a0 : Array Value} (hw : ∀ d ∈ tables_1, d.before a0 Z = true) : (Jvm.Cond.laysFinal "com/example/credence/credence/Logon" "com/example/credence/credence/Logon" "trusted" "Ljava/lang/String;").before a0 Z = true := hw _ (List.mem_of_getElem? (i := 77) rfl)
theorem d8_37 : decode prog_4_method_4_code 37 = .ok (.return_, 1) := by decide +kernel
theorem d9_85 : decode prog_4_method_6_code 85 = .ok (.iconst 1, 1) := by decide +kernel
theorem d9_86 : decode prog_4_method_6_code 86 = .ok (.goto 4, 3) := by decide +kernel
theorem d9_90 : decode prog_4_method_6_code 90 = .ok (.ireturn, 1) := by decide +kernel
theorem d9_68 : decode prog_4_method_6_code 68 = .ok (.aload_n 0, 1) := by decide +kernel
theorem d9_69 : decode prog_4_method_6_code 69 = .ok (.getfield 26, 3) := by decide +kernel
theorem d9_72 : decode prog_4_method_6_code 72 = .ok (.ifnull 13, 3) := by decide +kernel
theorem d9_75 : decode prog_4_method_6_code 75 = .ok (.aload_n 0, 1) := by decide +kernel
theorem d9_76 : decode prog_4_method_6_code 76 = .ok (.getfield 26, 3) := by decide +kernel
theorem d9_79 : decode prog_4_method_6_code 79 = .ok (.invokevirtual 38, 3) := by decide +kernel
theorem w86 {Z : State} {a0 : Array Value} (hw : ∀ d ∈ tables_1, d.before a0 Z = true) : (Jvm.Cond.methodLink "com/example/credence/credence/Logon" (38 : Nat) ({ cls := "java/lang/String", name := "isEmpty", desc := "()Z" } : Jvm.MethodName)).before a0 Z = true := hw _ (List.mem_of_getElem? (i := 86) rfl)
theorem d9_82 : decode prog_4_method_6_code 82 = .ok (.ifCond .eq 7, 3) := by decide +kernel
theorem d9_89 : decode prog_4_method_6_code 89 = .ok (.iconst 0, 1) := by decide +kernel
theorem d9_51 : decode prog_4_method_6_code 51 = .ok (.aload_n 0, 1) := by decide +kernel
theorem d9_52 : decode prog_4_method_6_code 52 = .ok (.getfield 23, 3) := by decide +kernel
theorem d9_55 : decode prog_4_method_6_code 55 = .ok (.ifnull 13, 3) := by decide +kernel
theorem d9_58 : decode prog_4_method_6_code 58 = .ok (.aload_n 0, 1) := by decide +kernel
theorem d9_59 : decode prog_4_method_6_code 59 = .ok (.getfield 23, 3) := by decide +kernel
theorem d9_62 : decode prog_4_method_6_code 62 = .ok (.invokevirtual 38, 3) := by decide +kernel
theorem d9_65 : decode prog_4_method_6_code 65 = .ok (.ifCond .eq 24, 3) := by decide +kernel
theorem d9_34 : decode prog_4_method_6_code 34 = .ok (.aload_n 0, 1) := by decide +kernel
theorem d9_35 : decode prog_4_method_6_code 35 = .ok (.getfield 20, 3) := by decide +kernel
theorem d9_38 : decode prog_4_method_6_code 38 = .ok (.ifnull 13, 3) := by decide +kernel
theorem d9_41 : decode prog_4_method_6_code 41 = .ok (.aload_n 0, 1) := by decide +kernel
theorem d9_42 : decode prog_4_method_6_code 42 = .ok (.getfield 20, 3) := by decide +kernel
theorem w98 {Z : State} {a0 : Array Value} (hw : ∀ d ∈ tables_1, d.before a0 Z = true) : (Jvm.Cond.code ({ cls := "com/example/credence/credence/Credentials", name := "blank", desc := "()Z" } : Jvm.MethodName) prog_3_method_3_code (1 : Nat) (Option.some Jvm.ClassFile.FieldType.boolean)).before a0 Z = true := hw _ (List.mem_of_getElem? (i := 98) rfl)
theorem d9_45 : decode prog_4_method_6_code 45 = .ok (.invokevirtual 43, 3) := by decide +kernel
theorem w94 {Z : State} {a0 : Array Value} (hw : ∀ d ∈ tables_1, d.before a0 Z = true) : (Jvm.Cond.methodLink "com/example/credence/credence/Logon" (43 : Nat) ({ cls := "com/example/credence/credence/Credentials", name := "blank", desc := "()Z" } : Jvm.MethodName)).before a0 Z = true := hw _ (List.mem_of_getElem? (i := 94) rfl)
theorem w97 {Z : State} {a0 : Array Value} (hw : ∀ d ∈ tables_1, d.before a0 Z = true) : (Jvm.Cond.selects "com/example/credence/credence/Credentials" ({ cls := "com/example/credence/credence/Credentials", name := "blank", desc := "()Z" } : Jvm.MethodName) ({ cls := "com/example/credence/credence/Credentials", name := "blank", desc := "()Z" } : Jvm.MethodName)).before a0 Z = true := hw _ (List.mem_of_getElem? (i := 97) rfl)
theorem w95 {Z : State} {a0 : Array Value} (hw : ∀ d ∈ tables_1, d.before a0 Z = true) : (Jvm.Cond.declares ({ cls := "com/example/credence/credence/Credentials", name := "blank", desc := "()Z" } : Jvm.MethodName)).before a0 Z = true := hw _ (List.mem_of_getElem? (i := 95) rfl)
theorem w96 {Z : State} {a0 : Array Value} (hw : ∀ d ∈ tables_1, d.before a0 Z = true) : (Jvm.Cond.instanceMethod ({ cls := "com/example/credence/credence/Credentials", name := "blank", desc := "()Z" } : Jvm.MethodName)).before a0 Z = true := hw _ (List.mem_of_getElem? (i := 96) rfl)
theorem d9_48 : decode prog_4_method_6_code 48 = .ok (.ifCond .eq 41, 3) := by decide +kernel
theorem d9_17 : decode prog_4_method_6_code 17 = .ok (.aload_n 0, 1) := by decide +kernel
theorem d9_18 : decode prog_4_method_6_code 18 = .ok (.getfield 16, 3) := by decide +kernel
theorem d9_21 : decode prog_4_method_6_code 21 = .ok (.ifnull 13, 3) := by decide +kernel
theorem d9_24 : decode prog_4_method_6_code 24 = .ok (.aload_n 0, 1) := by decide +kernel
theorem d9_25 : decode prog_4_method_6_code 25 = .ok (.getfield 16, 3) := by decide +kernel
theorem d9_28 : decode prog_4_method_6_code 28 = .ok (.invokevirtual 43, 3) := by decide +kernel
theorem d9_31 : decode prog_4_method_6_code 31 = .ok (.ifCond .eq 58, 3) := by decide +kernel
theorem d9_0 : decode prog_4_method_6_code 0 = .ok (.aload_n 0, 1) := by decide +kernel
theorem d9_1 : decode prog_4_method_6_code 1 = .ok (.getfield 13, 3) := by decide +kernel
theorem d9_4 : decode prog_4_method_6_code 4 = .ok (.ifnull 13, 3) := by decide +kernel
theorem d9_7 : decode prog_4_method_6_code 7 = .ok (.aload_n 0, 1) := by decide +kernel
theorem d9_8 : decode prog_4_method_6_code 8 = .ok (.getfield 13, 3) := by decide +kernel
theorem d9_11 : decode prog_4_method_6_code 11 = .ok (.invokevirtual 38, 3) := by decide +kernel
theorem d9_14 : decode prog_4_method_6_code 14 = .ok (.ifCond .eq 75, 3) := by decide +kernel
theorem w36 {Z : State} {a0 : Array Value} (hw : ∀ d ∈ tables_1, d.before a0 Z = true) : (Jvm.Cond.code ({ cls := "com/example/credence/credence/LogonSendsNothingPinLaw", name := "cred", desc := "(I)Lcom/example/credence/credence/Credentials;" } : Jvm.MethodName) method_5_code (1 : Nat) (Option.some (Jvm.ClassFile.FieldType.object "com/example/credence/credence/Credentials"))).before a0 Z = true := hw _ (List.mem_of_getElem? (i := 36) rfl)
theorem pd_7 : parseMethodDescriptor "(I)Lcom/example/credence/credence/Credentials;" = some ⟨[.int], some (.object "com/example/credence/credence/Credentials")⟩ := by decide +kernel
theorem w34 {Z : State} {a0 : Array Value} (hw : ∀ d ∈ tables_1, d.before a0 Z = true) : (Jvm.Cond.methodLink "com/example/credence/credence/LogonSendsNothingPinLaw" (33 : Nat) ({ cls := "com/example/credence/credence/LogonSendsNothingPinLaw", name := "cred", desc := "(I)Lcom/example/credence/credence/Credentials;" } : Jvm.MethodName)).before a0 Z = true := hw _ (List.mem_of_getElem? (i := 34) rfl)
theorem w35 {Z : State} {a0 : Array Value} (hw : ∀ d ∈ tables_1, d.before a0 Z = true) : (Jvm.Cond.static ({ cls := "com/example/credence/credence/LogonSendsNothingPinLaw", name := "cred", desc := "(I)Lcom/example/credence/credence/Credentials;" } : Jvm.MethodName)).before a0 Z = true := hw _ (List.mem_of_getElem? (i := 35) rfl)
theorem w59 {Z : State} {a0 : Array Value} (hw : ∀ d ∈ tables_1, d.before a0 Z = true) : (Jvm.Cond.classLink "com/example/credence/credence/LogonSendsNothingPinLaw" (37 : Nat) "com/example/credence/credence/Logon").before a0 Z = true := hw _ (List.mem_of_getElem? (i := 59) rfl)
theorem w61 {Z : State} {a0 : Array Value} (hw : ∀ d ∈ tables_1, d.before a0 Z = true) : (Jvm.Cond.initialized "com/example/credence/credence/Logon").before a0 Z = true := hw _ (List.mem_of_getElem? (i := 61) rfl)
theorem w64 {Z : State} {a0 : Array Value} (hw : ∀ d ∈ tables_1, d.before a0 Z = true) : (Jvm.Cond.code ({ cls := "com/example/credence/credence/Logon", name := "<init>", desc := "(Ljava/lang/String;Ljava/lang/String;Lcom/example/credence/credence/Credentials;Lcom/example/credence/credence/Credentials;Ljava/lang/String;Ljava/lang/String;)V" } : Jvm.MethodName) prog_4_method_4_code (7 : Nat) (Option.none : Option Jvm.ClassFile.FieldType)).before a0 Z = true := hw _ (List.mem_of_getElem? (i := 64) rfl)
theorem pd_8 : parseMethodDescriptor "(Ljava/lang/String;Ljava/lang/String;Lcom/example/credence/credence/Credentials;Lcom/example/credence/credence/Credentials;Ljava/lang/String;Ljava/lang/String;)V" = some ⟨[(.object "java/lang/String"), (.object "java/lang/String"), (.object "com/example/credence/credence/Credentials"), (.object "com/example/credence/credence/Credentials"), (.object "java/lang/String"), (.object "java/lang/String")], none⟩ := by decide +kernel
theorem w62 {Z : State} {a0 : Array Value} (hw : ∀ d ∈ tables_1, d.before a0 Z = true) : (Jvm.Cond.methodLink "com/example/credence/credence/LogonSendsNothingPinLaw" (39 : Nat) ({ cls := "com/example/credence/credence/Logon", name := "<init>", desc := "(Ljava/lang/String;Ljava/lang/String;Lcom/example/credence/credence/Credentials;Lcom/example/credence/credence/Credentials;Ljava/lang/String;Ljava/lang/String;)V" } : Jvm.MethodName)).before a0 Z = true := hw _ (List.mem_of_getElem? (i := 62) rfl)
theorem w63 {Z : State} {a0 : Array Value} (hw : ∀ d ∈ tables_1, d.before a0 Z = true) : (Jvm.Cond.instanceMethod ({ cls := "com/example/credence/credence/Logon", name := "<init>", desc := "(Ljava/lang/String;Ljava/lang/String;Lcom/example/credence/credence/Credentials;Lcom/example/credence/credence/Credentials;Ljava/lang/String;Ljava/lang/String;)V" } : Jvm.MethodName)).before a0 Z = true := hw _ (List.mem_of_getElem? (i := 63) rfl)
theorem w85 {Z : State} {a0 : Array Value} (hw : ∀ d ∈ tables_1, d.before a0 Z = true) : (Jvm.Cond.code ({ cls := "com/example/credence/credence/Logon", name := "sendsNothing", desc := "()Z" } : Jvm.MethodName) prog_4_method_6_code (1 : Nat) (Option.some Jvm.ClassFile.FieldType.boolean)).before a0 Z = true := hw _ (List.mem_of_getElem? (i := 85) rfl)
theorem w81 {Z : State} {a0 : Array Value} (hw : ∀ d ∈ tables_1, d.before a0 Z = true) : (Jvm.Cond.methodLink "com/example/credence/credence/LogonSendsNothingPinLaw" (45 : Nat) ({ cls := "com/example/credence/credence/Logon", name := "sendsNothing", desc := "()Z" } : Jvm.MethodName)).before a0 Z = true := hw _ (List.mem_of_getElem? (i := 81) rfl)
theorem w84 {Z : State} {a0 : Array Value} (hw : ∀ d ∈ tables_1, d.before a0 Z = true) : (Jvm.Cond.selects "com/example/credence/credence/Logon" ({ cls := "com/example/credence/credence/Logon", name := "sendsNothing", desc := "()Z" } : Jvm.MethodName) ({ cls := "com/example/credence/credence/Logon", name := "sendsNothing", desc := "()Z" } : Jvm.MethodName)).before a0 Z = true := hw _ (List.mem_of_getElem? (i := 84) rfl)
theorem w82 {Z : State} {a0 : Array Value} (hw : ∀ d ∈ tables_1, d.before a0 Z = true) : (Jvm.Cond.declares ({ cls := "com/example/credence/credence/Logon", name := "sendsNothing", desc := "()Z" } : Jvm.MethodName)).before a0 Z = true := hw _ (List.mem_of_getElem? (i := 82) rfl)
theorem w83 {Z : State} {a0 : Array Value} (hw : ∀ d ∈ tables_1, d.before a0 Z = true) : (Jvm.Cond.instanceMethod ({ cls := "com/example/credence/credence/Logon", name := "sendsNothing", desc := "()Z" } : Jvm.MethodName)).before a0 Z = true := hw _ (List.mem_of_getElem? (i := 83) rfl)
theorem w93 {Z : State} {a0 : Array Value} (hw : ∀ d ∈ tables_1, d.before a0 Z = true) : (Jvm.Cond.code ({ cls := "com/example/credence/credence/LogonSendsNothingPinLaw", name := "credSent", desc := "(I)Z" } : Jvm.MethodName) method_6_code (1 : Nat) (Option.some Jvm.ClassFile.FieldType.boolean)).before a0 Z = true := hw _ (List.mem_of_getElem? (i := 93) rfl)
theorem w91 {Z : State} {a0 : Array Value} (hw : ∀ d ∈ tables_1, d.before a0 Z = true) : (Jvm.Cond.methodLink "com/example/credence/credence/LogonSendsNothingPinLaw" (42 : Nat) ({ cls := "com/example/credence/credence/LogonSendsNothingPinLaw", name := "credSent", desc := "(I)Z" } : Jvm.MethodName)).before a0 Z = true := hw _ (List.mem_of_getElem? (i := 91) rfl)
theorem w92 {Z : State} {a0 : Array Value} (hw : ∀ d ∈ tables_1, d.before a0 Z = true) : (Jvm.Cond.static ({ cls := "com/example/credence/credence/LogonSendsNothingPinLaw", name := "credSent", desc := "(I)Z" } : Jvm.MethodName)).before a0 Z = true := hw _ (List.mem_of_getElem? (i := 92) rfl)
theorem w23 {Z : State} {a0 : Array Value} (hw : ∀ d ∈ tables_1, d.before a0 Z = true) : (Jvm.Cond.arrayClass Jvm.ClassFile.FieldType.byte).before a0 Z = true := hw _ (List.mem_of_getElem? (i := 23) rfl)
theorem and255_chars (x : Int32) : ¬ nar .char ((x &&& (255 : Int32)).toUInt32.toUInt16.toUInt32.toInt32) < 0 ∧ ¬ (255 : Int32) < nar .char ((x &&& (255 : Int32)).toUInt32.toUInt16.toUInt32.toInt32) := by
  have t : ∀ k : Fin 256, ¬ nar .char ((Int32.ofNat k.val).toUInt32.toUInt16.toUInt32.toInt32) < 0 ∧ ¬ (255 : Int32) < nar .char ((Int32.ofNat k.val).toUInt32.toUInt16.toUInt32.toInt32) := by decide +kernel
  have h : (x &&& 255).toBitVec.toNat < 256 := by
    simp only [Int32.toBitVec_and, BitVec.toNat_and]
    exact Nat.lt_succ_of_le Nat.and_le_right
  have e : (x &&& 255) = Int32.ofNat (x &&& 255).toBitVec.toNat := by
    apply Int32.toBitVec_inj.mp
    show _ = BitVec.ofNat 32 _
    rw [BitVec.ofNat_toNat]; simp
  rw [e]
  exact t ⟨_, h⟩
theorem chars_nil : ∀ c ∈ ([] : List Int32), ¬ c < 0 ∧ ¬ (255 : Int32) < c := fun _ h => nomatch h
theorem chars_cons {c : Int32} {L : List Int32} (h : ¬ c < 0 ∧ ¬ (255 : Int32) < c) (r : ∀ c ∈ L, ¬ c < 0 ∧ ¬ (255 : Int32) < c) : ∀ d ∈ c :: L, ¬ d < 0 ∧ ¬ (255 : Int32) < d := fun d q => (List.mem_cons.mp q).elim (fun u => u ▸ h) (r d)
theorem words_in (hs : ∀ d ∈ StrChars.Road.words, d ∈ tables_1) {Z : State} {a0 : Array Value} (hw : ∀ d ∈ tables_1, d.before a0 Z = true) : ∀ d ∈ StrChars.Road.words, d.before a0 Z = true := fun d hd => hw d (hs d hd)
theorem str_words : ∀ d ∈ StrChars.Road.words, d ∈ tables_1 := by decide +kernel
/-- a String whose chars are cs: its object, its byte[] -/
def Str (Z : State) (h : Heap) (a t : Addr) (cs : List Int32) : Prop := Exa Z h a "java/lang/String" ∧ ∃ (cd N2 : Int32) (kb : ClassId) (vs : List Value), Fld Z h a "java/lang/String" "value" "[B" (.ref t) ∧ Fld Z h a "java/lang/String" "coder" "B" (.int cd) ∧ Arv Z h t kb .byte N2 vs (.int 0) ∧ StrChars.Road.CodA cs cd N2 vs ∧ (∀ c ∈ cs, ¬ c < 0 ∧ ¬ (65535 : Int32) < c) ∧ cs.length ≤ 4000
theorem Str.ext {Z : State} {h h' : Heap} {a t : Addr} {cs : List Int32} (F : Str Z h a t cs) (E : Ext h h') : Str Z h' a t cs := by
  obtain ⟨x, cd, N2, kb, vs, V, C, K, r⟩ := F; exact ⟨x.ext E, cd, N2, kb, vs, V.ext E, C.ext E, K.ext E, r⟩
theorem Str.keep {Z : State} {h h' : Heap} {a t : Addr} {cs : List Int32} {ws : List Addr} (F : Str Z h a t cs) (E : Keep h h' ws) (q1 : a ∉ ws) (q2 : t ∉ ws) : Str Z h' a t cs := by
  obtain ⟨x, cd, N2, kb, vs, V, C, K, r⟩ := F; exact ⟨x.keep E, cd, N2, kb, vs, V.keep E q1, C.keep E q1, K.keep E q2, r⟩
theorem Str.wr {Z : State} {h h' : Heap} {a t b : Addr} {cs : List Int32} {sl : Nat} {v : Value} (F : Str Z h a t cs) (W : Wr h h' b sl v) (q1 : a ≠ b) (q2 : t ≠ b) : Str Z h' a t cs := by
  obtain ⟨x, cd, N2, kb, vs, V, C, K, r⟩ := F; exact ⟨x.wr W, cd, N2, kb, vs, V.other W (Or.inl q1), C.other W (Or.inl q1), K.other W q2, r⟩
theorem Str.keepC {Z : State} {h h' : Heap} {a t b : Addr} {cs : List Int32} {C : String} {k : Nat} {a0 : Array Value} (F : Str Z h a t cs) (K : Keep h h' [b]) (E : Exa Z h b C) (wi : (Jvm.Cond.instantiable C k).before a0 Z = true) (hC : C ≠ "java/lang/String") : Str Z h' a t cs := by
  refine F.keep K (ninS (ne_exa F.1 E (Ne.symm hC)) nin0) (ninS ?_ nin0)
  obtain ⟨-, cd, N2, kb, vs, -, -, ⟨cl, Ar, -⟩, -⟩ := F
  exact Ne.symm (ne_arr E wi Ar)
theorem Str.lt {Z : State} {h : Heap} {a t : Addr} {cs : List Int32} (F : Str Z h a t cs) : a < h.size := F.1.lt
theorem Str.ltT {Z : State} {h : Heap} {a t : Addr} {cs : List Int32} (F : Str Z h a t cs) : t < h.size := by obtain ⟨-, cd, N2, kb, vs, -, -, K, -⟩ := F; exact K.lt
theorem chars_up {cs : List Int32} (h : ∀ c ∈ cs, ¬ c < 0 ∧ ¬ (255 : Int32) < c) : ∀ c ∈ cs, ¬ c < 0 ∧ ¬ (65535 : Int32) < c := fun c hc => ⟨(h c hc).1, fun q => (h c hc).2 (by rw [Int32.lt_iff_toInt_lt] at q ⊢; have e1 : (65535 : Int32).toInt = 65535 := rfl; have e2 : (255 : Int32).toInt = 255 := rfl; omega)⟩
theorem Str.of {Z : State} {h : Heap} {a t : Addr} {kb : ClassId} {cs : List Int32} {n : Nat} (E : Exa Z h a "java/lang/String") (V : Fld Z h a "java/lang/String" "value" "[B" (.ref t)) (C : Fld Z h a "java/lang/String" "coder" "B" (.int 0)) (K : Arv Z h t kb .byte (Int32.ofNat n) ((cs.map (fun c => c.toInt8.toInt32)).map Value.int) (.int 0))
    (hn : cs.length = n) (hl : n ≤ 4000) (hp : ∀ c ∈ cs, ¬ c < 0 ∧ ¬ (255 : Int32) < c) : Str Z h a t cs :=
  ⟨E, 0, _, kb, _, V, C, K, StrChars.Road.codOf hn (fun c hc => (hp c hc).2), chars_up hp, hn ▸ hl⟩
theorem emp_words : ∀ d ∈ StrChars.Road.wordsEmp, d ∈ tables_1 := by decide +kernel
theorem empS {p : Program} {l : Launch} {e : Env} {R : Room} {s : State} {args : Array Value} {below : List Frame} {len W : Nat} {Z : State} {a0 : Array Value} {h : Heap} (hZ : Z.Warmed39 s.vm) (hw : ∀ d ∈ tables_1, d.before a0 Z = true) {kI : Nat} (wi : (Jvm.Cond.instantiable "java/lang/String" kI).before a0 Z = true)
    {x t : Addr} {cs : List Int32} (F : Str Z h x t cs) (hfr : 1 ≤ R.frames) (hlo : W + 12 ≤ R.locals) :
    Back l R p e below s args (⟨"java/lang/String", "isEmpty", "()Z"⟩ : MethodName) len W (fun P a => a = #[.ref x] ∧ P.U.heap = h ∧ P.cells + 0 ≤ R.cells ∧ P.slots + 0 ≤ R.slots)
      (fun P _ v B => ∃ L, (v = some (.int (if cs.length = 0 then 1 else 0)) ∧ L = [] ∧ B.U.heap = h) ∧ B.locs = P.locs ++ L ∧ B.cells = P.cells + 0 ∧ B.slots = P.slots + 0) := by
  obtain ⟨E, cd, N2, kb, vs, V, C, K, hc, hb, l2⟩ := F
  exact StrChars.Road.empW hZ (fun d hd => hw d (emp_words d hd)) wi E V C K hc hb l2 hfr hlo
/-- null, an empty String, or one that isn't empty -/
def OStr (Z : State) (h : Heap) (v : Value) (ne : Bool) : Prop := (v = .null ∧ ne = false) ∨ (∃ a t : Addr, v = .ref a ∧ Str Z h a t [] ∧ ne = false) ∨ (∃ (a t : Addr) (c : Int32) (cs : List Int32), v = .ref a ∧ Str Z h a t (c :: cs) ∧ ne = true)
theorem OStr.ext {Z : State} {h h' : Heap} {v : Value} {ne : Bool} (F : OStr Z h v ne) (E : Ext h h') : OStr Z h' v ne := by
  rcases F with F | ⟨a, t, r1, r2, r3⟩ | ⟨a, t, c, cs, r1, r2, r3⟩
  · exact Or.inl F
  · exact Or.inr (Or.inl ⟨a, t, r1, r2.ext E, r3⟩)
  · exact Or.inr (Or.inr ⟨a, t, c, cs, r1, r2.ext E, r3⟩)
theorem OStr.keepC {Z : State} {h h' : Heap} {v : Value} {ne : Bool} {b : Addr} {C : String} {k : Nat} {a0 : Array Value} (F : OStr Z h v ne) (K : Keep h h' [b]) (E : Exa Z h b C) (wi : (Jvm.Cond.instantiable C k).before a0 Z = true) (hC : C ≠ "java/lang/String") : OStr Z h' v ne := by
  rcases F with F | ⟨a, t, r1, r2, r3⟩ | ⟨a, t, c, cs, r1, r2, r3⟩
  · exact Or.inl F
  · exact Or.inr (Or.inl ⟨a, t, r1, r2.keepC K E wi hC, r3⟩)
  · exact Or.inr (Or.inr ⟨a, t, c, cs, r1, r2.keepC K E wi hC, r3⟩)
theorem OStr.isRef {Z : State} {h : Heap} {v : Value} {ne : Bool} (F : OStr Z h v ne) : v.isRef = true := by
  rcases F with ⟨rfl, -⟩ | ⟨a, t, rfl, -⟩ | ⟨a, t, c, cs, rfl, -⟩ <;> rfl
theorem and3 (x : Int32) : x &&& (3 : Int32) = 0 ∨ x &&& (3 : Int32) = 1 ∨ x &&& (3 : Int32) = 2 ∨ x &&& (3 : Int32) = 3 := by
  have h := c_and x 3 (by decide); have h3 : (3 : Int32).toInt = 3 := rfl
  have e : x &&& 3 = Int32.ofInt (x &&& 3).toInt := (Int32.ofInt_toInt _).symm
  have : (x &&& 3).toInt = 0 ∨ (x &&& 3).toInt = 1 ∨ (x &&& 3).toInt = 2 ∨ (x &&& 3).toInt = 3 := by omega
  rcases this with q | q | q | q <;> rw [q] at e
  · exact Or.inl e
  · exact Or.inr (Or.inl e)
  · exact Or.inr (Or.inr (Or.inl e))
  · exact Or.inr (Or.inr (Or.inr e))
theorem and3_3 {x : Int32} (h0 : ¬ x &&& (3 : Int32) = 0) (h1 : ¬ x &&& (3 : Int32) = 1) (h2 : ¬ x &&& (3 : Int32) = 2) : x &&& (3 : Int32) = 3 := by
  rcases and3 x with q | q | q | q
  · exact absurd q h0
  · exact absurd q h1
  · exact absurd q h2
  · exact q

theorem hEL {Z : State} {a0 : Array Value} (hw : ∀ d ∈ tables_1, d.before a0 Z = true) : EW Z a0 consts_1 := (EW.cons (w56 hw) (by decide) EW.nil)
theorem str_atoms {Z : State} {a0 : Array Value} (hw : ∀ d ∈ tables_1, d.before a0 Z = true) : ∀ a ∈ Bundle.stringAtoms, a.before a0 Z = true := fun d hd => hw d ((by decide +kernel : ∀ d ∈ Bundle.stringAtoms, d ∈ tables_1) d hd)
def sentB (p : Int32) : Bool := decide (¬ (p &&& (3 : Int32)) < (2 : Int32))
def pcode (p : Int32) : Int32 := (((p).toUInt32 >>> ((2 : Int32) &&& 31).toUInt32).toInt32 &&& (3 : Int32)) ||| ((((p).toUInt32 >>> ((24 : Int32) &&& 31).toUInt32).toInt32 &&& (255 : Int32)) <<< ((8 : Int32) &&& 31))
def csentB (p : Int32) : Bool := if (p &&& (16 : Int32)) = (0 : Int32) then sentB p || sentB (pcode p) else false
/-- null, or a Credentials of two such Strings; sent: one of them isn't empty -/
def OCred (Z : State) (h : Heap) (v : Value) (se : Bool) : Prop := (v = .null ∧ se = false) ∨ ∃ (a : Addr) (v1 v2 : Value) (n1 n2 : Bool), v = .ref a ∧ Exa Z h a "com/example/credence/credence/Credentials" ∧ Fld Z h a "com/example/credence/credence/Credentials" "username" "Ljava/lang/String;" v1 ∧ Fld Z h a "com/example/credence/credence/Credentials" "password" "Ljava/lang/String;" v2 ∧ OStr Z h v1 n1 ∧ OStr Z h v2 n2 ∧ se = (n1 || n2)
theorem OCred.ext {Z : State} {h h' : Heap} {v : Value} {se : Bool} (F : OCred Z h v se) (E : Ext h h') : OCred Z h' v se := by
  rcases F with F | ⟨a, v1, v2, n1, n2, r1, r2, r3, r4, r5, r6, r7⟩
  · exact Or.inl F
  · exact Or.inr ⟨a, v1, v2, n1, n2, r1, r2.ext E, r3.ext E, r4.ext E, r5.ext E, r6.ext E, r7⟩
theorem OCred.isRef {Z : State} {h : Heap} {v : Value} {se : Bool} (F : OCred Z h v se) : v.isRef = true := by
  rcases F with ⟨rfl, -⟩ | ⟨a, v1, v2, n1, n2, rfl, -⟩ <;> rfl
def Q_rec (Z : State) (a1 : Addr) (h0 : Heap) (n0 : Nat) (vR : Option Value) (h : Heap) (L : List Loc) : Prop := vR = none ∧ Fr n0 L ∧ h = h0
theorem ef_rec (m : MethodId) (x0 : Addr) : entryFrame m #[(.ref x0)] 1 = mkF m 0 #[.val (.ref x0)] [] := by first | (simp [entryFrame, mkF, argsToLocals, Value.category]; done) | rfl
set_option maxRecDepth 65536 in
set_option maxHeartbeats 40000000 in
theorem rm_rec (l : Launch) (Z : State) (a0 : Array Value) (hw : ∀ d ∈ tables_1, d.before a0 Z = true) (ws : List Jvm.Cond) (a1 : Addr) (h0 : Heap) (n0 : Nat) (Z0 : n0 ≤ h0.size)  :
    MetFree l (⟨"java/lang/Record", "<init>", "()V"⟩ : MethodName) (head1 (Jvm.Cond.code (⟨"java/lang/Record", "<init>", "()V"⟩ : MethodName) jdk_30_method_1_code 1 none :: ws) ({ frames := 1, cells := 0, slots := 0, locals := 12 } : Room)) (fun a U => a = #[(.ref a1)] ∧ Z.Warmed39 U.vm ∧ U.heap = h0) (fun _ _ _ _ _ => True) (fun _ U o U' => ∃ v L, o = .returned v ∧ Q_rec Z a1 h0 n0 v U'.heap L ∧ FrameEnd U o U' L ({ frames := 1, cells := 0, slots := 0, locals := 12 } : Room).cells ({ frames := 1, cells := 0, slots := 0, locals := 12 } : Room).slots) := by
  refine MetFree.of_bodySF (plainFor_of_name pn_java_lang_Record) hisR ?_
  intro p e s m args below meth c s₁ Bd hml0 hP hK
  obtain ⟨rfl, hZ, hh⟩ := hP
  have hx := Bd.exec
  have hby := Bd.bytes
  have hml : c.maxLocals = 1 := hml0
  have hown : s.vm.findClass "java/lang/Record" = some m.cls := findClass_of_methodNamed Bd.named
  have hnm := (name_of_methodNamed Bd.named Bd.method).1
  have X0 : Stand p l e ({ frames := 1, cells := 0, slots := 0, locals := 12 } : Room) s m #[(.ref a1)] below meth c s₁ [] 0 0 := Stand.of_body Bd
  have e0 : s₁.heap = h0 := by rw [← hh, Bd.state]; rfl
  have N0 := Fr.nil n0
  refine go_st (fun t k => castTop (ef_rec m a1) k) ?_
  show Go _ _ _ _ (s₁.setTop (mkF m 0 #[rv a1] []))
  refine go_st (fun t k => XS.aloadN X0.here hx rfl (hb hby d0_0) rfl rfl k) ?_
  show Go _ _ _ _ (s₁.setTop (mkF m 1 #[rv a1] [(.ref a1)]))
  obtain ⟨T1, X1, e1, st1⟩ := initO X0 hx hZ hown (w51 hw) (w16 hw) (w17 hw) e0 (g := (mkF m 1 #[rv a1] [(.ref a1)])) rfl (by rw [hml]; rfl) rfl (hb hby d0_1) (by decide) (W := 0) (by show 2 * 0 + _ ≤ _; exact Nat.le_of_eq rfl) (by decide)
  refine go_st (fun t k => st1 t k) ?_
  show Go _ _ _ _ (T1.setTop (mkF m 4 #[rv a1] []))
  obtain ⟨fs, hr, hrun, hended, hW, hsame⟩ := X1.leave (v := none) (fun _ => rfl)
  refine ⟨_, _, ?_, hrun, hended, _, _, rfl, ?_, ⟨_, rfl⟩, hW, hsame.mono (by decide) (by decide)⟩
  · exact X1.returnOut hx Bd.returns (hb hby d0_4) hr
  · show Q_rec _ _ _ _ _ T1.heap _
    rw [e1]
    exact ⟨rfl, N0, rfl⟩
def Q_cred (Z : State) (a1 : Addr) (v1 : Value) (v2 : Value) (h0 : Heap) (n0 : Nat) (vR : Option Value) (h : Heap) (L : List Loc) : Prop := vR = none ∧ Fr n0 L ∧ Keep h0 h [a1] ∧ (Exa Z h a1 "com/example/credence/credence/Credentials") ∧ (Fld Z h a1 "com/example/credence/credence/Credentials" "username" "Ljava/lang/String;" v1) ∧ (Fld Z h a1 "com/example/credence/credence/Credentials" "password" "Ljava/lang/String;" v2)
theorem ef_cred (m : MethodId) (x0 : Addr) (x1 : Value) (hx1 : x1.isRef = true) (x2 : Value) (hx2 : x2.isRef = true) : entryFrame m #[(.ref x0), x1, x2] 3 = mkF m 0 #[.val (.ref x0), .val x1, .val x2] [] := by rcases ref_cases hx1 with rfl | ⟨y1, rfl⟩ <;> rcases ref_cases hx2 with rfl | ⟨y2, rfl⟩ <;> simp [entryFrame, mkF, argsToLocals, Value.category]
set_option maxRecDepth 65536 in
set_option maxHeartbeats 40000000 in
theorem rm_cred (l : Launch) (Z : State) (a0 : Array Value) (hw : ∀ d ∈ tables_1, d.before a0 Z = true) (ws : List Jvm.Cond) (a1 : Addr) (v1 : Value) (v2 : Value) (h0 : Heap) (n0 : Nat) (Z0 : n0 ≤ h0.size) (H0 : Exa Z h0 a1 "com/example/credence/credence/Credentials") (H1 : Fld Z h0 a1 "com/example/credence/credence/Credentials" "username" "Ljava/lang/String;" .null) (H2 : Fld Z h0 a1 "com/example/credence/credence/Credentials" "password" "Ljava/lang/String;" .null) (g_a1 : n0 ≤ a1) (hv1 : v1.isRef = true) (hv2 : v2.isRef = true) :
    MetFree l (⟨"com/example/credence/credence/Credentials", "<init>", "(Ljava/lang/String;Ljava/lang/String;)V"⟩ : MethodName) (head1 (Jvm.Cond.code (⟨"com/example/credence/credence/Credentials", "<init>", "(Ljava/lang/String;Ljava/lang/String;)V"⟩ : MethodName) prog_3_method_1_code 3 none :: ws) ({ frames := 2, cells := 0, slots := 0, locals := 24 } : Room)) (fun a U => a = #[(.ref a1), v1, v2] ∧ Z.Warmed39 U.vm ∧ U.heap = h0) (fun _ _ _ _ _ => True) (fun _ U o U' => ∃ v L, o = .returned v ∧ Q_cred Z a1 v1 v2 h0 n0 v U'.heap L ∧ FrameEnd U o U' L ({ frames := 2, cells := 0, slots := 0, locals := 24 } : Room).cells ({ frames := 2, cells := 0, slots := 0, locals := 24 } : Room).slots) := by
  refine MetFree.of_bodySF (plainFor_of_name pn_com_example_credence_credence_Credentials) hisR ?_
  intro p e s m args below meth c s₁ Bd hml0 hP hK
  obtain ⟨rfl, hZ, hh⟩ := hP
  have hx := Bd.exec
  have hby := Bd.bytes
  have hml : c.maxLocals = 3 := hml0
  have hown : s.vm.findClass "com/example/credence/credence/Credentials" = some m.cls := findClass_of_methodNamed Bd.named
  have hnm := (name_of_methodNamed Bd.named Bd.method).1
  have X0 : Stand p l e ({ frames := 2, cells := 0, slots := 0, locals := 24 } : Room) s m #[(.ref a1), v1, v2] below meth c s₁ [] 0 0 := Stand.of_body Bd
  have e0 : s₁.heap = h0 := by rw [← hh, Bd.state]; rfl
  have N0 := Fr.nil n0
  refine go_st (fun t k => castTop (ef_cred m a1 v1 hv1 v2 hv2) k) ?_
  show Go _ _ _ _ (s₁.setTop (mkF m 0 #[rv a1, .val v1, .val v2] []))
  refine go_st (fun t k => XS.aloadN X0.here hx rfl (hb hby d1_0) rfl rfl k) ?_
  show Go _ _ _ _ (s₁.setTop (mkF m 1 #[rv a1, .val v1, .val v2] [(.ref a1)]))
  obtain ⟨_, _, ⟨T1, L1, kk1, nn1⟩, -, X1, ⟨Lc1, hQ1, lq1, yq1, zq1⟩, st1⟩ := X0.specialBack hx (y := (⟨"java/lang/Record", "<init>", "()V"⟩ : MethodName)) rfl hown (mvT hZ (w46 hw)) (mvT hZ (w47 hw)) (mvT hZ (w50 hw)) (by decide) (backOf (W := 0) (rm_rec l Z a0 hw [] a1 h0 n0 (Nat.le_trans Z0 (Nat.le_refl _)) ) hZ (w50 hw) (w49 hw) (by decide) (by decide)) (g := (mkF m 1 #[rv a1, .val v1, .val v2] [(.ref a1)])) rfl (by rw [hml]; rfl) (Steps.refl _) (a := a1) (argsL := []) (rest := []) (lenOf pd_0 rfl) rfl (by show 2 * 0 + _ ≤ _; exact Nat.le_of_eq rfl) (hb hby d1_1) (fun _ _ => ⟨rfl, e0, (by decide : 0 + 0 ≤ _), (by decide : 0 + 0 ≤ _)⟩)
  dsimp only [Pt.U, Pt.locs, Pt.cells, Pt.slots] at X1 lq1 yq1 zq1 st1 hQ1
  subst lq1 yq1 zq1
  obtain ⟨h1, e1⟩ : ∃ z, T1.heap = z := ⟨_, rfl⟩
  rw [e1] at hQ1
  obtain ⟨rfl, N1q, he1⟩ := hQ1
  have N1 := Fr.app N0 N1q
  rw [he1] at e1
  refine go_tr st1 ?_
  show Go _ _ _ _ (T1.setTop (mkF m 4 #[rv a1, .val v1, .val v2] []))
  refine go_st (fun t k => XS.aloadN X1.here hx rfl (hb hby d1_4) rfl rfl k) ?_
  show Go _ _ _ _ (T1.setTop (mkF m 5 #[rv a1, .val v1, .val v2] [(.ref a1)]))
  refine go_st (fun t k => XS.aloadN X1.here hx rfl (hb hby d1_5) rfl hv1 k) ?_
  show Go _ _ _ _ (T1.setTop (mkF m 6 #[rv a1, .val v1, .val v2] [v1, (.ref a1)]))
  obtain ⟨T2, h2, X2, e2, W2, st2⟩ := putF X1 hx hZ hown (host := "") (Or.inl (w52 hw)) Via.refl e1 H1 H0 (Or.inr ⟨(w53 hw), rfl, hnm⟩) (w38 hw) (ty := (.object "java/lang/String")) (by decide) (ref_narrow _ hv1) (ref_fits _ hv1) (g := (mkF m 6 #[rv a1, .val v1, .val v2] [v1, (.ref a1)])) rfl rfl (hb hby d1_6)
  have N2 := Fr.snoc X2 N1 g_a1
  have f3 : Fld Z h2 a1 "com/example/credence/credence/Credentials" "username" "Ljava/lang/String;" v1 := H1.same W2
  refine go_st (fun t k => st2 t k) ?_
  show Go _ _ _ _ (T2.setTop (mkF m 9 #[rv a1, .val v1, .val v2] []))
  refine go_st (fun t k => XS.aloadN X2.here hx rfl (hb hby d1_9) rfl rfl k) ?_
  show Go _ _ _ _ (T2.setTop (mkF m 10 #[rv a1, .val v1, .val v2] [(.ref a1)]))
  refine go_st (fun t k => XS.aloadN X2.here hx rfl (hb hby d1_10) rfl hv2 k) ?_
  show Go _ _ _ _ (T2.setTop (mkF m 11 #[rv a1, .val v1, .val v2] [v2, (.ref a1)]))
  have f4 : Fld Z h2 a1 "com/example/credence/credence/Credentials" "password" "Ljava/lang/String;" .null := (H2.other W2 (Or.inr (slot_ne (Or.inr (w55 hw)) (Or.inr (w53 hw)) (by decide) (t := (.object "java/lang/String")) (t' := (.object "java/lang/String")) (by decide) (by decide))))
  have f5 : Exa Z h2 a1 "com/example/credence/credence/Credentials" := (H0.wr W2)
  obtain ⟨T6, h6, X6, e6, W6, st6⟩ := putF X2 hx hZ hown (host := "") (Or.inl (w54 hw)) Via.refl e2 f4 f5 (Or.inr ⟨(w55 hw), rfl, hnm⟩) (w38 hw) (ty := (.object "java/lang/String")) (by decide) (ref_narrow _ hv2) (ref_fits _ hv2) (g := (mkF m 11 #[rv a1, .val v1, .val v2] [v2, (.ref a1)])) rfl rfl (hb hby d1_11)
  have N6 := Fr.snoc X6 N2 g_a1
  have f7 : Fld Z h6 a1 "com/example/credence/credence/Credentials" "password" "Ljava/lang/String;" v2 := f4.same W6
  refine go_st (fun t k => st6 t k) ?_
  show Go _ _ _ _ (T6.setTop (mkF m 14 #[rv a1, .val v1, .val v2] []))
  have f8 : Exa Z h6 a1 "com/example/credence/credence/Credentials" := (f5.wr W6)
  have f9 : Fld Z h6 a1 "com/example/credence/credence/Credentials" "username" "Ljava/lang/String;" v1 := (f3.other W6 (Or.inr (slot_ne (Or.inr (w53 hw)) (Or.inr (w55 hw)) (by decide) (t := (.object "java/lang/String")) (t' := (.object "java/lang/String")) (by decide) (by decide))))
  have ke10 : Keep h0 h2 [a1] := (Keep.wr (Keep.refl h0 [a1]) W2 (Or.inl (List.mem_of_getElem? (i := 0) rfl)))
  have ke11 : Keep h0 h6 [a1] := (Keep.wr ke10 W6 (Or.inl (List.mem_of_getElem? (i := 0) rfl)))
  obtain ⟨fs, hr, hrun, hended, hW, hsame⟩ := X6.leave (v := none) (fun _ => rfl)
  refine ⟨_, _, ?_, hrun, hended, _, _, rfl, ?_, ⟨_, rfl⟩, hW, hsame.mono (by decide) (by decide)⟩
  · exact X6.returnOut hx Bd.returns (hb hby d1_14) hr
  · show Q_cred _ _ _ _ _ _ _ T6.heap _
    rw [e6]
    exact ⟨rfl, N6, ke11, f8, f9, f7⟩
def Q_blank (Z : State) (a1 : Addr) (v1 : Value) (v2 : Value) (n1 : Bool) (n2 : Bool) (h0 : Heap) (n0 : Nat) (vR : Option Value) (h : Heap) (L : List Loc) : Prop := ∃ (r : Int32), vR = some (.int r) ∧ Fr n0 L ∧ h = h0 ∧ (r = (if (n1 || n2) = false then 1 else 0))
theorem ef_blank (m : MethodId) (x0 : Addr) : entryFrame m #[(.ref x0)] 1 = mkF m 0 #[.val (.ref x0)] [] := by first | (simp [entryFrame, mkF, argsToLocals, Value.category]; done) | rfl
set_option maxRecDepth 65536 in
set_option maxHeartbeats 40000000 in
theorem rm_blank (l : Launch) (Z : State) (a0 : Array Value) (hw : ∀ d ∈ tables_1, d.before a0 Z = true) (ws : List Jvm.Cond) (a1 : Addr) (v1 : Value) (v2 : Value) (n1 : Bool) (n2 : Bool) (h0 : Heap) (n0 : Nat) (Z0 : n0 ≤ h0.size) (H0 : Fld Z h0 a1 "com/example/credence/credence/Credentials" "username" "Ljava/lang/String;" v1) (H1 : Fld Z h0 a1 "com/example/credence/credence/Credentials" "password" "Ljava/lang/String;" v2) (hv1 : v1.isRef = true) (hv2 : v2.isRef = true) (H4 : OStr Z h0 v1 n1) (H5 : OStr Z h0 v2 n2) :
    MetFree l (⟨"com/example/credence/credence/Credentials", "blank", "()Z"⟩ : MethodName) (head1 (Jvm.Cond.code (⟨"com/example/credence/credence/Credentials", "blank", "()Z"⟩ : MethodName) prog_3_method_3_code 1 (some .boolean) :: ws) ({ frames := 1, cells := 0, slots := 0, locals := 12 } : Room)) (fun a U => a = #[(.ref a1)] ∧ Z.Warmed39 U.vm ∧ U.heap = h0) (fun _ _ _ _ _ => True) (fun _ U o U' => ∃ v L, o = .returned v ∧ Q_blank Z a1 v1 v2 n1 n2 h0 n0 v U'.heap L ∧ FrameEnd U o U' L ({ frames := 1, cells := 0, slots := 0, locals := 12 } : Room).cells ({ frames := 1, cells := 0, slots := 0, locals := 12 } : Room).slots) := by
  refine MetFree.of_bodySF (plainFor_of_name pn_com_example_credence_credence_Credentials) hisR ?_
  intro p e s m args below meth c s₁ Bd hml0 hP hK
  obtain ⟨rfl, hZ, hh⟩ := hP
  have hx := Bd.exec
  have hby := Bd.bytes
  have hml : c.maxLocals = 1 := hml0
  have hown : s.vm.findClass "com/example/credence/credence/Credentials" = some m.cls := findClass_of_methodNamed Bd.named
  have hnm := (name_of_methodNamed Bd.named Bd.method).1
  have X0 : Stand p l e ({ frames := 1, cells := 0, slots := 0, locals := 12 } : Room) s m #[(.ref a1)] below meth c s₁ [] 0 0 := Stand.of_body Bd
  have e0 : s₁.heap = h0 := by rw [← hh, Bd.state]; rfl
  have N0 := Fr.nil n0
  refine go_st (fun t k => castTop (ef_blank m a1) k) ?_
  show Go _ _ _ _ (s₁.setTop (mkF m 0 #[rv a1] []))
  refine go_st (fun t k => XS.aloadN X0.here hx rfl (hb hby d2_0) rfl rfl k) ?_
  show Go _ _ _ _ (s₁.setTop (mkF m 1 #[rv a1] [(.ref a1)]))
  obtain ⟨T1, X1, e1, st1⟩ := getF X0 hx hZ hown (host := "") (Or.inl (w52 hw)) Via.refl e0 H0 (g := (mkF m 1 #[rv a1] [(.ref a1)])) rfl rfl (hb hby d2_1)
  refine go_st (fun t k => st1 t k) ?_
  show Go _ _ _ _ (T1.setTop (mkF m 4 #[rv a1] [v1]))
  rcases H4 with ⟨rfl, rfl⟩ | ⟨oa2, ot2, rfl, oF2, rfl⟩ | ⟨oa2, ot2, oc2, os2, rfl, oF2, rfl⟩
  · skip
    show Go _ _ _ _ (T1.setTop (mkF m 4 #[rv a1] [.null]))
    refine go_st (fun t k => XS.ifnullYes X1.here hx rfl (pc0 := 4) (pc' := 17) rfl (hb hby d2_4) rfl (by decide) (by decide) k) ?_
    show Go _ _ _ _ (T1.setTop (mkF m 17 #[rv a1] []))
    refine go_st (fun t k => XS.aloadN X1.here hx rfl (hb hby d2_17) rfl rfl k) ?_
    show Go _ _ _ _ (T1.setTop (mkF m 18 #[rv a1] [(.ref a1)]))
    obtain ⟨T3, X3, e3, st3⟩ := getF X1 hx hZ hown (host := "") (Or.inl (w54 hw)) Via.refl e1 H1 (g := (mkF m 18 #[rv a1] [(.ref a1)])) rfl rfl (hb hby d2_18)
    refine go_st (fun t k => st3 t k) ?_
    show Go _ _ _ _ (T3.setTop (mkF m 21 #[rv a1] [v2]))
    rcases H5 with ⟨rfl, rfl⟩ | ⟨oa4, ot4, rfl, oF4, rfl⟩ | ⟨oa4, ot4, oc4, os4, rfl, oF4, rfl⟩
    · skip
      show Go _ _ _ _ (T3.setTop (mkF m 21 #[rv a1] [.null]))
      refine go_st (fun t k => XS.ifnullYes X3.here hx rfl (pc0 := 21) (pc' := 34) rfl (hb hby d2_21) rfl (by decide) (by decide) k) ?_
      show Go _ _ _ _ (T3.setTop (mkF m 34 #[rv a1] []))
      refine go_st (fun t k => XS.iconst X3.here hx rfl (hb hby d2_34) k) ?_
      show Go _ _ _ _ (T3.setTop (mkF m 35 #[rv a1] [(.int 1)]))
      refine go_st (fun t k => XS.goto X3.here hx rfl (pc0 := 35) (pc' := 39) rfl (hb hby d2_35) (by decide) (by decide) k) ?_
      show Go _ _ _ _ (T3.setTop (mkF m 39 #[rv a1] [(.int 1)]))
      obtain ⟨fs, hr, hrun, hended, hW, hsame⟩ := X3.leave (v := some (.int 1)) (fun h => by rw [Bd.returns] at h; cases h)
      refine ⟨_, _, ?_, hrun, hended, _, _, rfl, ?_, ⟨_, rfl⟩, hW, hsame.mono (by decide) (by decide)⟩
      · exact retN X3 hx (t := .boolean) Bd.returns (by simp) (hb hby d2_39) hr
      · show Q_blank _ _ _ _ _ _ _ _ _ T3.heap _
        rw [e3]
        exact ⟨(1 : Int32), rfl, N0, rfl, (by simp)⟩
    · skip
      show Go _ _ _ _ (T3.setTop (mkF m 21 #[rv a1] [(.ref oa4)]))
      refine go_st (fun t k => XS.ifnullNo X3.here hx rfl (hb hby d2_21) rfl k) ?_
      show Go _ _ _ _ (T3.setTop (mkF m 24 #[rv a1] []))
      refine go_st (fun t k => XS.aloadN X3.here hx rfl (hb hby d2_24) rfl rfl k) ?_
      show Go _ _ _ _ (T3.setTop (mkF m 25 #[rv a1] [(.ref a1)]))
      obtain ⟨T5, X5, e5, st5⟩ := getF X3 hx hZ hown (host := "") (Or.inl (w54 hw)) Via.refl e3 H1 (g := (mkF m 25 #[rv a1] [(.ref a1)])) rfl rfl (hb hby d2_25)
      refine go_st (fun t k => st5 t k) ?_
      show Go _ _ _ _ (T5.setTop (mkF m 28 #[rv a1] [(.ref oa4)]))
      obtain ⟨cq6, kq6, q6a, q6b, q6c⟩ := isOf hZ e5 oF4.1
      obtain ⟨_, _, ⟨T6, L6, kk6, nn6⟩, -, X6, ⟨Lc6, hQ6, lq6, yq6, zq6⟩, st6⟩ := X5.virtualBack hx (y := (⟨"java/lang/String", "isEmpty", "()Z"⟩ : MethodName)) (z := (⟨"java/lang/String", "isEmpty", "()Z"⟩ : MethodName)) hown (mvT hZ (w99 hw)) (mvT hZ (w87 hw)) (notFace_of_selects (args := #[]) (mvT hZ (w89 hw))) (mvT hZ (w89 hw)) (mvT hZ (w88 hw)) (by decide) (empS (W := 0) hZ hw (kI := 4) (w5 hw) oF4 (by decide) (by decide)) q6a q6c (g := (mkF m 28 #[rv a1] [(.ref oa4)])) rfl (by rw [hml]; rfl) (Steps.refl _) (argsL := []) (rest := []) (lenOf pd_1 rfl) rfl (by show 2 * 0 + _ ≤ _; exact Nat.le_of_eq rfl) (hb hby d2_28) (fun _ _ => ⟨rfl, e5, (by decide : 0 + 0 ≤ _), (by decide : 0 + 0 ≤ _)⟩)
      dsimp only [Pt.U, Pt.locs, Pt.cells, Pt.slots] at X6 lq6 yq6 zq6 st6 hQ6
      subst lq6 yq6 zq6
      obtain ⟨h6, e6⟩ : ∃ z, T6.heap = z := ⟨_, rfl⟩
      rw [e6] at hQ6
      obtain ⟨rfl, rfl, he6⟩ := hQ6
      have N6 := Fr.app N0 (Fr.nil n0)
      rw [he6] at e6
      refine go_tr st6 ?_
      rw [show (if ([] : List Int32).length = 0 then (1 : Int32) else 0) = 1 from if_pos rfl]
      show Go _ _ _ _ (T6.setTop (mkF m 31 #[rv a1] [(.int 1)]))
      refine go_st (fun t k => XS.ifNo X6.here hx rfl (hb hby d2_31) rfl ((if0 _ _).trans (feq ((by decide) : ¬ ((1 : Int32) = (0 : Int32)))).1) k) ?_
      show Go _ _ _ _ (T6.setTop (mkF m 34 #[rv a1] []))
      refine go_st (fun t k => XS.iconst X6.here hx rfl (hb hby d2_34) k) ?_
      show Go _ _ _ _ (T6.setTop (mkF m 35 #[rv a1] [(.int 1)]))
      refine go_st (fun t k => XS.goto X6.here hx rfl (pc0 := 35) (pc' := 39) rfl (hb hby d2_35) (by decide) (by decide) k) ?_
      show Go _ _ _ _ (T6.setTop (mkF m 39 #[rv a1] [(.int 1)]))
      obtain ⟨fs, hr, hrun, hended, hW, hsame⟩ := X6.leave (v := some (.int 1)) (fun h => by rw [Bd.returns] at h; cases h)
      refine ⟨_, _, ?_, hrun, hended, _, _, rfl, ?_, ⟨_, rfl⟩, hW, hsame.mono (by decide) (by decide)⟩
      · exact retN X6 hx (t := .boolean) Bd.returns (by simp) (hb hby d2_39) hr
      · show Q_blank _ _ _ _ _ _ _ _ _ T6.heap _
        rw [e6]
        exact ⟨(1 : Int32), rfl, N6, rfl, (by simp)⟩
    · skip
      show Go _ _ _ _ (T3.setTop (mkF m 21 #[rv a1] [(.ref oa4)]))
      refine go_st (fun t k => XS.ifnullNo X3.here hx rfl (hb hby d2_21) rfl k) ?_
      show Go _ _ _ _ (T3.setTop (mkF m 24 #[rv a1] []))
      refine go_st (fun t k => XS.aloadN X3.here hx rfl (hb hby d2_24) rfl rfl k) ?_
      show Go _ _ _ _ (T3.setTop (mkF m 25 #[rv a1] [(.ref a1)]))
      obtain ⟨T7, X7, e7, st7⟩ := getF X3 hx hZ hown (host := "") (Or.inl (w54 hw)) Via.refl e3 H1 (g := (mkF m 25 #[rv a1] [(.ref a1)])) rfl rfl (hb hby d2_25)
      refine go_st (fun t k => st7 t k) ?_
      show Go _ _ _ _ (T7.setTop (mkF m 28 #[rv a1] [(.ref oa4)]))
      obtain ⟨cq8, kq8, q8a, q8b, q8c⟩ := isOf hZ e7 oF4.1
      obtain ⟨_, _, ⟨T8, L8, kk8, nn8⟩, -, X8, ⟨Lc8, hQ8, lq8, yq8, zq8⟩, st8⟩ := X7.virtualBack hx (y := (⟨"java/lang/String", "isEmpty", "()Z"⟩ : MethodName)) (z := (⟨"java/lang/String", "isEmpty", "()Z"⟩ : MethodName)) hown (mvT hZ (w99 hw)) (mvT hZ (w87 hw)) (notFace_of_selects (args := #[]) (mvT hZ (w89 hw))) (mvT hZ (w89 hw)) (mvT hZ (w88 hw)) (by decide) (empS (W := 0) hZ hw (kI := 4) (w5 hw) oF4 (by decide) (by decide)) q8a q8c (g := (mkF m 28 #[rv a1] [(.ref oa4)])) rfl (by rw [hml]; rfl) (Steps.refl _) (argsL := []) (rest := []) (lenOf pd_1 rfl) rfl (by show 2 * 0 + _ ≤ _; exact Nat.le_of_eq rfl) (hb hby d2_28) (fun _ _ => ⟨rfl, e7, (by decide : 0 + 0 ≤ _), (by decide : 0 + 0 ≤ _)⟩)
      dsimp only [Pt.U, Pt.locs, Pt.cells, Pt.slots] at X8 lq8 yq8 zq8 st8 hQ8
      subst lq8 yq8 zq8
      obtain ⟨h8, e8⟩ : ∃ z, T8.heap = z := ⟨_, rfl⟩
      rw [e8] at hQ8
      obtain ⟨rfl, rfl, he8⟩ := hQ8
      have N8 := Fr.app N0 (Fr.nil n0)
      rw [he8] at e8
      refine go_tr st8 ?_
      rw [show (if ((oc4 :: os4) : List Int32).length = 0 then (1 : Int32) else 0) = 0 from if_neg (by simp)]
      show Go _ _ _ _ (T8.setTop (mkF m 31 #[rv a1] [(.int 0)]))
      refine go_st (fun t k => XS.ifYes X8.here hx rfl (pc0 := 31) (pc' := 38) rfl (hb hby d2_31) rfl ((if0 _ _).trans (teq ((by decide) : (0 : Int32) = (0 : Int32))).1) (by decide) (by decide) k) ?_
      show Go _ _ _ _ (T8.setTop (mkF m 38 #[rv a1] []))
      refine go_st (fun t k => XS.iconst X8.here hx rfl (hb hby d2_38) k) ?_
      show Go _ _ _ _ (T8.setTop (mkF m 39 #[rv a1] [(.int 0)]))
      obtain ⟨fs, hr, hrun, hended, hW, hsame⟩ := X8.leave (v := some (.int 0)) (fun h => by rw [Bd.returns] at h; cases h)
      refine ⟨_, _, ?_, hrun, hended, _, _, rfl, ?_, ⟨_, rfl⟩, hW, hsame.mono (by decide) (by decide)⟩
      · exact retN X8 hx (t := .boolean) Bd.returns (by simp) (hb hby d2_39) hr
      · show Q_blank _ _ _ _ _ _ _ _ _ T8.heap _
        rw [e8]
        exact ⟨(0 : Int32), rfl, N8, rfl, (by simp)⟩
  · skip
    show Go _ _ _ _ (T1.setTop (mkF m 4 #[rv a1] [(.ref oa2)]))
    refine go_st (fun t k => XS.ifnullNo X1.here hx rfl (hb hby d2_4) rfl k) ?_
    show Go _ _ _ _ (T1.setTop (mkF m 7 #[rv a1] []))
    refine go_st (fun t k => XS.aloadN X1.here hx rfl (hb hby d2_7) rfl rfl k) ?_
    show Go _ _ _ _ (T1.setTop (mkF m 8 #[rv a1] [(.ref a1)]))
    obtain ⟨T9, X9, e9, st9⟩ := getF X1 hx hZ hown (host := "") (Or.inl (w52 hw)) Via.refl e1 H0 (g := (mkF m 8 #[rv a1] [(.ref a1)])) rfl rfl (hb hby d2_8)
    refine go_st (fun t k => st9 t k) ?_
    show Go _ _ _ _ (T9.setTop (mkF m 11 #[rv a1] [(.ref oa2)]))
    obtain ⟨cq10, kq10, q10a, q10b, q10c⟩ := isOf hZ e9 oF2.1
    obtain ⟨_, _, ⟨T10, L10, kk10, nn10⟩, -, X10, ⟨Lc10, hQ10, lq10, yq10, zq10⟩, st10⟩ := X9.virtualBack hx (y := (⟨"java/lang/String", "isEmpty", "()Z"⟩ : MethodName)) (z := (⟨"java/lang/String", "isEmpty", "()Z"⟩ : MethodName)) hown (mvT hZ (w99 hw)) (mvT hZ (w87 hw)) (notFace_of_selects (args := #[]) (mvT hZ (w89 hw))) (mvT hZ (w89 hw)) (mvT hZ (w88 hw)) (by decide) (empS (W := 0) hZ hw (kI := 4) (w5 hw) oF2 (by decide) (by decide)) q10a q10c (g := (mkF m 11 #[rv a1] [(.ref oa2)])) rfl (by rw [hml]; rfl) (Steps.refl _) (argsL := []) (rest := []) (lenOf pd_1 rfl) rfl (by show 2 * 0 + _ ≤ _; exact Nat.le_of_eq rfl) (hb hby d2_11) (fun _ _ => ⟨rfl, e9, (by decide : 0 + 0 ≤ _), (by decide : 0 + 0 ≤ _)⟩)
    dsimp only [Pt.U, Pt.locs, Pt.cells, Pt.slots] at X10 lq10 yq10 zq10 st10 hQ10
    subst lq10 yq10 zq10
    obtain ⟨h10, e10⟩ : ∃ z, T10.heap = z := ⟨_, rfl⟩
    rw [e10] at hQ10
    obtain ⟨rfl, rfl, he10⟩ := hQ10
    have N10 := Fr.app N0 (Fr.nil n0)
    rw [he10] at e10
    refine go_tr st10 ?_
    rw [show (if ([] : List Int32).length = 0 then (1 : Int32) else 0) = 1 from if_pos rfl]
    show Go _ _ _ _ (T10.setTop (mkF m 14 #[rv a1] [(.int 1)]))
    refine go_st (fun t k => XS.ifNo X10.here hx rfl (hb hby d2_14) rfl ((if0 _ _).trans (feq ((by decide) : ¬ ((1 : Int32) = (0 : Int32)))).1) k) ?_
    show Go _ _ _ _ (T10.setTop (mkF m 17 #[rv a1] []))
    refine go_st (fun t k => XS.aloadN X10.here hx rfl (hb hby d2_17) rfl rfl k) ?_
    show Go _ _ _ _ (T10.setTop (mkF m 18 #[rv a1] [(.ref a1)]))
    obtain ⟨T11, X11, e11, st11⟩ := getF X10 hx hZ hown (host := "") (Or.inl (w54 hw)) Via.refl e10 H1 (g := (mkF m 18 #[rv a1] [(.ref a1)])) rfl rfl (hb hby d2_18)
    refine go_st (fun t k => st11 t k) ?_
    show Go _ _ _ _ (T11.setTop (mkF m 21 #[rv a1] [v2]))
    rcases H5 with ⟨rfl, rfl⟩ | ⟨oa12, ot12, rfl, oF12, rfl⟩ | ⟨oa12, ot12, oc12, os12, rfl, oF12, rfl⟩
    · skip
      show Go _ _ _ _ (T11.setTop (mkF m 21 #[rv a1] [.null]))
      refine go_st (fun t k => XS.ifnullYes X11.here hx rfl (pc0 := 21) (pc' := 34) rfl (hb hby d2_21) rfl (by decide) (by decide) k) ?_
      show Go _ _ _ _ (T11.setTop (mkF m 34 #[rv a1] []))
      refine go_st (fun t k => XS.iconst X11.here hx rfl (hb hby d2_34) k) ?_
      show Go _ _ _ _ (T11.setTop (mkF m 35 #[rv a1] [(.int 1)]))
      refine go_st (fun t k => XS.goto X11.here hx rfl (pc0 := 35) (pc' := 39) rfl (hb hby d2_35) (by decide) (by decide) k) ?_
      show Go _ _ _ _ (T11.setTop (mkF m 39 #[rv a1] [(.int 1)]))
      obtain ⟨fs, hr, hrun, hended, hW, hsame⟩ := X11.leave (v := some (.int 1)) (fun h => by rw [Bd.returns] at h; cases h)
      refine ⟨_, _, ?_, hrun, hended, _, _, rfl, ?_, ⟨_, rfl⟩, hW, hsame.mono (by decide) (by decide)⟩
      · exact retN X11 hx (t := .boolean) Bd.returns (by simp) (hb hby d2_39) hr
      · show Q_blank _ _ _ _ _ _ _ _ _ T11.heap _
        rw [e11]
        exact ⟨(1 : Int32), rfl, N10, rfl, (by simp)⟩
    · skip
      show Go _ _ _ _ (T11.setTop (mkF m 21 #[rv a1] [(.ref oa12)]))
      refine go_st (fun t k => XS.ifnullNo X11.here hx rfl (hb hby d2_21) rfl k) ?_
      show Go _ _ _ _ (T11.setTop (mkF m 24 #[rv a1] []))
      refine go_st (fun t k => XS.aloadN X11.here hx rfl (hb hby d2_24) rfl rfl k) ?_
      show Go _ _ _ _ (T11.setTop (mkF m 25 #[rv a1] [(.ref a1)]))
      obtain ⟨T13, X13, e13, st13⟩ := getF X11 hx hZ hown (host := "") (Or.inl (w54 hw)) Via.refl e11 H1 (g := (mkF m 25 #[rv a1] [(.ref a1)])) rfl rfl (hb hby d2_25)
      refine go_st (fun t k => st13 t k) ?_
      show Go _ _ _ _ (T13.setTop (mkF m 28 #[rv a1] [(.ref oa12)]))
      obtain ⟨cq14, kq14, q14a, q14b, q14c⟩ := isOf hZ e13 oF12.1
      obtain ⟨_, _, ⟨T14, L14, kk14, nn14⟩, -, X14, ⟨Lc14, hQ14, lq14, yq14, zq14⟩, st14⟩ := X13.virtualBack hx (y := (⟨"java/lang/String", "isEmpty", "()Z"⟩ : MethodName)) (z := (⟨"java/lang/String", "isEmpty", "()Z"⟩ : MethodName)) hown (mvT hZ (w99 hw)) (mvT hZ (w87 hw)) (notFace_of_selects (args := #[]) (mvT hZ (w89 hw))) (mvT hZ (w89 hw)) (mvT hZ (w88 hw)) (by decide) (empS (W := 0) hZ hw (kI := 4) (w5 hw) oF12 (by decide) (by decide)) q14a q14c (g := (mkF m 28 #[rv a1] [(.ref oa12)])) rfl (by rw [hml]; rfl) (Steps.refl _) (argsL := []) (rest := []) (lenOf pd_1 rfl) rfl (by show 2 * 0 + _ ≤ _; exact Nat.le_of_eq rfl) (hb hby d2_28) (fun _ _ => ⟨rfl, e13, (by decide : 0 + 0 ≤ _), (by decide : 0 + 0 ≤ _)⟩)
      dsimp only [Pt.U, Pt.locs, Pt.cells, Pt.slots] at X14 lq14 yq14 zq14 st14 hQ14
      subst lq14 yq14 zq14
      obtain ⟨h14, e14⟩ : ∃ z, T14.heap = z := ⟨_, rfl⟩
      rw [e14] at hQ14
      obtain ⟨rfl, rfl, he14⟩ := hQ14
      have N14 := Fr.app N10 (Fr.nil n0)
      rw [he14] at e14
      refine go_tr st14 ?_
      rw [show (if ([] : List Int32).length = 0 then (1 : Int32) else 0) = 1 from if_pos rfl]
      show Go _ _ _ _ (T14.setTop (mkF m 31 #[rv a1] [(.int 1)]))
      refine go_st (fun t k => XS.ifNo X14.here hx rfl (hb hby d2_31) rfl ((if0 _ _).trans (feq ((by decide) : ¬ ((1 : Int32) = (0 : Int32)))).1) k) ?_
      show Go _ _ _ _ (T14.setTop (mkF m 34 #[rv a1] []))
      refine go_st (fun t k => XS.iconst X14.here hx rfl (hb hby d2_34) k) ?_
      show Go _ _ _ _ (T14.setTop (mkF m 35 #[rv a1] [(.int 1)]))
      refine go_st (fun t k => XS.goto X14.here hx rfl (pc0 := 35) (pc' := 39) rfl (hb hby d2_35) (by decide) (by decide) k) ?_
      show Go _ _ _ _ (T14.setTop (mkF m 39 #[rv a1] [(.int 1)]))
      obtain ⟨fs, hr, hrun, hended, hW, hsame⟩ := X14.leave (v := some (.int 1)) (fun h => by rw [Bd.returns] at h; cases h)
      refine ⟨_, _, ?_, hrun, hended, _, _, rfl, ?_, ⟨_, rfl⟩, hW, hsame.mono (by decide) (by decide)⟩
      · exact retN X14 hx (t := .boolean) Bd.returns (by simp) (hb hby d2_39) hr
      · show Q_blank _ _ _ _ _ _ _ _ _ T14.heap _
        rw [e14]
        exact ⟨(1 : Int32), rfl, N14, rfl, (by simp)⟩
    · skip
      show Go _ _ _ _ (T11.setTop (mkF m 21 #[rv a1] [(.ref oa12)]))
      refine go_st (fun t k => XS.ifnullNo X11.here hx rfl (hb hby d2_21) rfl k) ?_
      show Go _ _ _ _ (T11.setTop (mkF m 24 #[rv a1] []))
      refine go_st (fun t k => XS.aloadN X11.here hx rfl (hb hby d2_24) rfl rfl k) ?_
      show Go _ _ _ _ (T11.setTop (mkF m 25 #[rv a1] [(.ref a1)]))
      obtain ⟨T15, X15, e15, st15⟩ := getF X11 hx hZ hown (host := "") (Or.inl (w54 hw)) Via.refl e11 H1 (g := (mkF m 25 #[rv a1] [(.ref a1)])) rfl rfl (hb hby d2_25)
      refine go_st (fun t k => st15 t k) ?_
      show Go _ _ _ _ (T15.setTop (mkF m 28 #[rv a1] [(.ref oa12)]))
      obtain ⟨cq16, kq16, q16a, q16b, q16c⟩ := isOf hZ e15 oF12.1
      obtain ⟨_, _, ⟨T16, L16, kk16, nn16⟩, -, X16, ⟨Lc16, hQ16, lq16, yq16, zq16⟩, st16⟩ := X15.virtualBack hx (y := (⟨"java/lang/String", "isEmpty", "()Z"⟩ : MethodName)) (z := (⟨"java/lang/String", "isEmpty", "()Z"⟩ : MethodName)) hown (mvT hZ (w99 hw)) (mvT hZ (w87 hw)) (notFace_of_selects (args := #[]) (mvT hZ (w89 hw))) (mvT hZ (w89 hw)) (mvT hZ (w88 hw)) (by decide) (empS (W := 0) hZ hw (kI := 4) (w5 hw) oF12 (by decide) (by decide)) q16a q16c (g := (mkF m 28 #[rv a1] [(.ref oa12)])) rfl (by rw [hml]; rfl) (Steps.refl _) (argsL := []) (rest := []) (lenOf pd_1 rfl) rfl (by show 2 * 0 + _ ≤ _; exact Nat.le_of_eq rfl) (hb hby d2_28) (fun _ _ => ⟨rfl, e15, (by decide : 0 + 0 ≤ _), (by decide : 0 + 0 ≤ _)⟩)
      dsimp only [Pt.U, Pt.locs, Pt.cells, Pt.slots] at X16 lq16 yq16 zq16 st16 hQ16
      subst lq16 yq16 zq16
      obtain ⟨h16, e16⟩ : ∃ z, T16.heap = z := ⟨_, rfl⟩
      rw [e16] at hQ16
      obtain ⟨rfl, rfl, he16⟩ := hQ16
      have N16 := Fr.app N10 (Fr.nil n0)
      rw [he16] at e16
      refine go_tr st16 ?_
      rw [show (if ((oc12 :: os12) : List Int32).length = 0 then (1 : Int32) else 0) = 0 from if_neg (by simp)]
      show Go _ _ _ _ (T16.setTop (mkF m 31 #[rv a1] [(.int 0)]))
      refine go_st (fun t k => XS.ifYes X16.here hx rfl (pc0 := 31) (pc' := 38) rfl (hb hby d2_31) rfl ((if0 _ _).trans (teq ((by decide) : (0 : Int32) = (0 : Int32))).1) (by decide) (by decide) k) ?_
      show Go _ _ _ _ (T16.setTop (mkF m 38 #[rv a1] []))
      refine go_st (fun t k => XS.iconst X16.here hx rfl (hb hby d2_38) k) ?_
      show Go _ _ _ _ (T16.setTop (mkF m 39 #[rv a1] [(.int 0)]))
      obtain ⟨fs, hr, hrun, hended, hW, hsame⟩ := X16.leave (v := some (.int 0)) (fun h => by rw [Bd.returns] at h; cases h)
      refine ⟨_, _, ?_, hrun, hended, _, _, rfl, ?_, ⟨_, rfl⟩, hW, hsame.mono (by decide) (by decide)⟩
      · exact retN X16 hx (t := .boolean) Bd.returns (by simp) (hb hby d2_39) hr
      · show Q_blank _ _ _ _ _ _ _ _ _ T16.heap _
        rw [e16]
        exact ⟨(0 : Int32), rfl, N16, rfl, (by simp)⟩
  · skip
    show Go _ _ _ _ (T1.setTop (mkF m 4 #[rv a1] [(.ref oa2)]))
    refine go_st (fun t k => XS.ifnullNo X1.here hx rfl (hb hby d2_4) rfl k) ?_
    show Go _ _ _ _ (T1.setTop (mkF m 7 #[rv a1] []))
    refine go_st (fun t k => XS.aloadN X1.here hx rfl (hb hby d2_7) rfl rfl k) ?_
    show Go _ _ _ _ (T1.setTop (mkF m 8 #[rv a1] [(.ref a1)]))
    obtain ⟨T17, X17, e17, st17⟩ := getF X1 hx hZ hown (host := "") (Or.inl (w52 hw)) Via.refl e1 H0 (g := (mkF m 8 #[rv a1] [(.ref a1)])) rfl rfl (hb hby d2_8)
    refine go_st (fun t k => st17 t k) ?_
    show Go _ _ _ _ (T17.setTop (mkF m 11 #[rv a1] [(.ref oa2)]))
    obtain ⟨cq18, kq18, q18a, q18b, q18c⟩ := isOf hZ e17 oF2.1
    obtain ⟨_, _, ⟨T18, L18, kk18, nn18⟩, -, X18, ⟨Lc18, hQ18, lq18, yq18, zq18⟩, st18⟩ := X17.virtualBack hx (y := (⟨"java/lang/String", "isEmpty", "()Z"⟩ : MethodName)) (z := (⟨"java/lang/String", "isEmpty", "()Z"⟩ : MethodName)) hown (mvT hZ (w99 hw)) (mvT hZ (w87 hw)) (notFace_of_selects (args := #[]) (mvT hZ (w89 hw))) (mvT hZ (w89 hw)) (mvT hZ (w88 hw)) (by decide) (empS (W := 0) hZ hw (kI := 4) (w5 hw) oF2 (by decide) (by decide)) q18a q18c (g := (mkF m 11 #[rv a1] [(.ref oa2)])) rfl (by rw [hml]; rfl) (Steps.refl _) (argsL := []) (rest := []) (lenOf pd_1 rfl) rfl (by show 2 * 0 + _ ≤ _; exact Nat.le_of_eq rfl) (hb hby d2_11) (fun _ _ => ⟨rfl, e17, (by decide : 0 + 0 ≤ _), (by decide : 0 + 0 ≤ _)⟩)
    dsimp only [Pt.U, Pt.locs, Pt.cells, Pt.slots] at X18 lq18 yq18 zq18 st18 hQ18
    subst lq18 yq18 zq18
    obtain ⟨h18, e18⟩ : ∃ z, T18.heap = z := ⟨_, rfl⟩
    rw [e18] at hQ18
    obtain ⟨rfl, rfl, he18⟩ := hQ18
    have N18 := Fr.app N0 (Fr.nil n0)
    rw [he18] at e18
    refine go_tr st18 ?_
    rw [show (if ((oc2 :: os2) : List Int32).length = 0 then (1 : Int32) else 0) = 0 from if_neg (by simp)]
    show Go _ _ _ _ (T18.setTop (mkF m 14 #[rv a1] [(.int 0)]))
    refine go_st (fun t k => XS.ifYes X18.here hx rfl (pc0 := 14) (pc' := 38) rfl (hb hby d2_14) rfl ((if0 _ _).trans (teq ((by decide) : (0 : Int32) = (0 : Int32))).1) (by decide) (by decide) k) ?_
    show Go _ _ _ _ (T18.setTop (mkF m 38 #[rv a1] []))
    refine go_st (fun t k => XS.iconst X18.here hx rfl (hb hby d2_38) k) ?_
    show Go _ _ _ _ (T18.setTop (mkF m 39 #[rv a1] [(.int 0)]))
    obtain ⟨fs, hr, hrun, hended, hW, hsame⟩ := X18.leave (v := some (.int 0)) (fun h => by rw [Bd.returns] at h; cases h)
    refine ⟨_, _, ?_, hrun, hended, _, _, rfl, ?_, ⟨_, rfl⟩, hW, hsame.mono (by decide) (by decide)⟩
    · exact retN X18 hx (t := .boolean) Bd.returns (by simp) (hb hby d2_39) hr
    · show Q_blank _ _ _ _ _ _ _ _ _ T18.heap _
      rw [e18]
      exact ⟨(0 : Int32), rfl, N18, rfl, (by simp)⟩
def Q_str (Z : State) (pk : Int32) (G1 : Int32) (h0 : Heap) (n0 : Nat) (vR : Option Value) (h : Heap) (L : List Loc) : Prop := ∃ (v : Value) (ne : Bool), vR = some v ∧ Fr n0 L ∧ Keep h0 h [] ∧ (v.isRef = true) ∧ (ne = sentB pk) ∧ (OStr Z h v ne)
theorem ef_str (m : MethodId) (x0 : Int32) : entryFrame m #[(.int x0)] 4 = mkF m 0 #[.val (.int x0), .unset, .unset, .unset] [] := by first | (simp [entryFrame, mkF, argsToLocals, Value.category]; done) | rfl
set_option maxRecDepth 65536 in
set_option maxHeartbeats 40000000 in
theorem rm_str (l : Launch) (Z : State) (a0 : Array Value) (hw : ∀ d ∈ tables_1, d.before a0 Z = true) (ws : List Jvm.Cond) (pk : Int32) (G1 : Int32) (h0 : Heap) (n0 : Nat) (Z0 : n0 ≤ h0.size) (CS : Sta Z Z.heap "java/lang/String" "COMPACT_STRINGS" "Z" (.int G1)) (CSn : ¬ (G1 = (0 : Int32))) (O0 : Old Z n0 h0) :
    MetFree l (⟨"com/example/credence/credence/LogonSendsNothingPinLaw", "str", "(I)Ljava/lang/String;"⟩ : MethodName) (head1 (Jvm.Cond.code (⟨"com/example/credence/credence/LogonSendsNothingPinLaw", "str", "(I)Ljava/lang/String;"⟩ : MethodName) method_2_code 4 (some (.object "java/lang/String")) :: ws) ({ frames := 4, cells := 3, slots := 8, locals := 66 } : Room)) (fun a U => a = #[(.int pk)] ∧ Z.Warmed39 U.vm ∧ U.heap = h0 ∧ CHv Z consts_1 U.vm h0) (fun _ _ _ _ _ => True) (fun _ U o U' => ∃ v L, o = .returned v ∧ Q_str Z pk G1 h0 n0 v U'.heap L ∧ CHr Z consts_1 U.vm U.heap U'.vm U'.heap ∧ ReturnedEndW U o U' L ({ frames := 4, cells := 3, slots := 8, locals := 66 } : Room).cells ({ frames := 4, cells := 3, slots := 8, locals := 66 } : Room).slots) := by
  refine MetFree.of_bodySF (plainFor_of_name pn_com_example_credence_credence_LogonSendsNothingPinLaw) hisR ?_
  intro p e s m args below meth c s₁ Bd hml0 hP hK
  obtain ⟨rfl, hZs, hh, H0⟩ := hP
  have hx := Bd.exec
  have hby := Bd.bytes
  have hml : c.maxLocals = 4 := hml0
  have hZ : Z.Warmed39 (s.setVm s.vm).vm := hZs
  have hown : (s.setVm s.vm).vm.findClass "com/example/credence/credence/LogonSendsNothingPinLaw" = some m.cls := findClass_of_methodNamed Bd.named
  have hnm := (name_of_methodNamed Bd.named Bd.method).1
  have X0 : Stand p l e ({ frames := 4, cells := 3, slots := 8, locals := 66 } : Room) (s.setVm s.vm) m #[(.int pk)] below meth c s₁ [] 0 0 := Stand.of_body Bd
  have e0 : s₁.heap = h0 := by rw [← hh, Bd.state]; rfl
  have N0 := Fr.nil n0
  have hS0 : s.Since s.vm s.heap.size := (State.WarmedH.refl s).since _
  have hk0 : s.heap.size ≤ h0.size := Nat.le_of_eq (congrArg Array.size hh)
  have C0 : CHr Z consts_1 s.vm h0 s.vm h0 := CHr.refl H0
  refine go_st (fun t k => castTop (ef_str m pk) k) ?_
  show Go _ _ _ _ (s₁.setTop (mkF m 0 #[iv pk, .unset, .unset, .unset] []))
  refine go_st (fun t k => XS.iloadN X0.here hx rfl (hb hby d3_0) rfl k) ?_
  show Go _ _ _ _ (s₁.setTop (mkF m 1 #[iv pk, .unset, .unset, .unset] [(.int pk)]))
  refine go_st (fun t k => XS.iconst X0.here hx rfl (hb hby d3_1) k) ?_
  show Go _ _ _ _ (s₁.setTop (mkF m 2 #[iv pk, .unset, .unset, .unset] [(.int 3), (.int pk)]))
  refine go_st (fun t k => XS.iand X0.here hx rfl (hb hby d3_2) rfl k) ?_
  show Go _ _ _ _ (s₁.setTop (mkF m 3 #[iv pk, .unset, .unset, .unset] [(.int (pk &&& (3 : Int32)))]))
  refine go_st (fun t k => XS.istoreN X0.here hx rfl (hb hby d3_3) rfl (l' := #[iv pk, iv (pk &&& (3 : Int32)), .unset, .unset]) rfl k) ?_
  show Go _ _ _ _ (s₁.setTop (mkF m 4 #[iv pk, iv (pk &&& (3 : Int32)), .unset, .unset] []))
  refine go_st (fun t k => XS.iloadN X0.here hx rfl (hb hby d3_4) rfl k) ?_
  show Go _ _ _ _ (s₁.setTop (mkF m 5 #[iv pk, iv (pk &&& (3 : Int32)), .unset, .unset] [(.int pk)]))
  refine go_st (fun t k => XS.bipush X0.here hx rfl (hb hby d3_5) k) ?_
  show Go _ _ _ _ (s₁.setTop (mkF m 7 #[iv pk, iv (pk &&& (3 : Int32)), .unset, .unset] [(.int 8), (.int pk)]))
  refine go_st (fun t k => XS.iushr X0.here hx rfl (hb hby d3_7) rfl k) ?_
  show Go _ _ _ _ (s₁.setTop (mkF m 8 #[iv pk, iv (pk &&& (3 : Int32)), .unset, .unset] [(.int ((pk).toUInt32 >>> ((8 : Int32) &&& 31).toUInt32).toInt32)]))
  refine go_st (fun t k => XS.sipush X0.here hx rfl (hb hby d3_8) k) ?_
  show Go _ _ _ _ (s₁.setTop (mkF m 11 #[iv pk, iv (pk &&& (3 : Int32)), .unset, .unset] [(.int 255), (.int ((pk).toUInt32 >>> ((8 : Int32) &&& 31).toUInt32).toInt32)]))
  refine go_st (fun t k => XS.iand X0.here hx rfl (hb hby d3_11) rfl k) ?_
  show Go _ _ _ _ (s₁.setTop (mkF m 12 #[iv pk, iv (pk &&& (3 : Int32)), .unset, .unset] [(.int (((pk).toUInt32 >>> ((8 : Int32) &&& 31).toUInt32).toInt32 &&& (255 : Int32)))]))
  refine go_st (fun t k => XS.i2c X0.here hx rfl (hb hby d3_12) rfl k) ?_
  show Go _ _ _ _ (s₁.setTop (mkF m 13 #[iv pk, iv (pk &&& (3 : Int32)), .unset, .unset] [(.int (((((pk).toUInt32 >>> ((8 : Int32) &&& 31).toUInt32).toInt32 &&& (255 : Int32))).toUInt32.toUInt16.toUInt32.toInt32))]))
  refine go_st (fun t k => XS.istoreN X0.here hx rfl (hb hby d3_13) rfl (l' := #[iv pk, iv (pk &&& (3 : Int32)), iv (((((pk).toUInt32 >>> ((8 : Int32) &&& 31).toUInt32).toInt32 &&& (255 : Int32))).toUInt32.toUInt16.toUInt32.toInt32), .unset]) rfl k) ?_
  show Go _ _ _ _ (s₁.setTop (mkF m 14 #[iv pk, iv (pk &&& (3 : Int32)), iv (((((pk).toUInt32 >>> ((8 : Int32) &&& 31).toUInt32).toInt32 &&& (255 : Int32))).toUInt32.toUInt16.toUInt32.toInt32), .unset] []))
  refine go_st (fun t k => XS.iloadN X0.here hx rfl (hb hby d3_14) rfl k) ?_
  show Go _ _ _ _ (s₁.setTop (mkF m 15 #[iv pk, iv (pk &&& (3 : Int32)), iv (((((pk).toUInt32 >>> ((8 : Int32) &&& 31).toUInt32).toInt32 &&& (255 : Int32))).toUInt32.toUInt16.toUInt32.toInt32), .unset] [(.int pk)]))
  refine go_st (fun t k => XS.bipush X0.here hx rfl (hb hby d3_15) k) ?_
  show Go _ _ _ _ (s₁.setTop (mkF m 17 #[iv pk, iv (pk &&& (3 : Int32)), iv (((((pk).toUInt32 >>> ((8 : Int32) &&& 31).toUInt32).toInt32 &&& (255 : Int32))).toUInt32.toUInt16.toUInt32.toInt32), .unset] [(.int 16), (.int pk)]))
  refine go_st (fun t k => XS.iushr X0.here hx rfl (hb hby d3_17) rfl k) ?_
  show Go _ _ _ _ (s₁.setTop (mkF m 18 #[iv pk, iv (pk &&& (3 : Int32)), iv (((((pk).toUInt32 >>> ((8 : Int32) &&& 31).toUInt32).toInt32 &&& (255 : Int32))).toUInt32.toUInt16.toUInt32.toInt32), .unset] [(.int ((pk).toUInt32 >>> ((16 : Int32) &&& 31).toUInt32).toInt32)]))
  refine go_st (fun t k => XS.sipush X0.here hx rfl (hb hby d3_18) k) ?_
  show Go _ _ _ _ (s₁.setTop (mkF m 21 #[iv pk, iv (pk &&& (3 : Int32)), iv (((((pk).toUInt32 >>> ((8 : Int32) &&& 31).toUInt32).toInt32 &&& (255 : Int32))).toUInt32.toUInt16.toUInt32.toInt32), .unset] [(.int 255), (.int ((pk).toUInt32 >>> ((16 : Int32) &&& 31).toUInt32).toInt32)]))
  refine go_st (fun t k => XS.iand X0.here hx rfl (hb hby d3_21) rfl k) ?_
  show Go _ _ _ _ (s₁.setTop (mkF m 22 #[iv pk, iv (pk &&& (3 : Int32)), iv (((((pk).toUInt32 >>> ((8 : Int32) &&& 31).toUInt32).toInt32 &&& (255 : Int32))).toUInt32.toUInt16.toUInt32.toInt32), .unset] [(.int (((pk).toUInt32 >>> ((16 : Int32) &&& 31).toUInt32).toInt32 &&& (255 : Int32)))]))
  refine go_st (fun t k => XS.i2c X0.here hx rfl (hb hby d3_22) rfl k) ?_
  show Go _ _ _ _ (s₁.setTop (mkF m 23 #[iv pk, iv (pk &&& (3 : Int32)), iv (((((pk).toUInt32 >>> ((8 : Int32) &&& 31).toUInt32).toInt32 &&& (255 : Int32))).toUInt32.toUInt16.toUInt32.toInt32), .unset] [(.int (((((pk).toUInt32 >>> ((16 : Int32) &&& 31).toUInt32).toInt32 &&& (255 : Int32))).toUInt32.toUInt16.toUInt32.toInt32))]))
  refine go_st (fun t k => XS.istoreN X0.here hx rfl (hb hby d3_23) rfl (l' := #[iv pk, iv (pk &&& (3 : Int32)), iv (((((pk).toUInt32 >>> ((8 : Int32) &&& 31).toUInt32).toInt32 &&& (255 : Int32))).toUInt32.toUInt16.toUInt32.toInt32), iv (((((pk).toUInt32 >>> ((16 : Int32) &&& 31).toUInt32).toInt32 &&& (255 : Int32))).toUInt32.toUInt16.toUInt32.toInt32)]) rfl k) ?_
  show Go _ _ _ _ (s₁.setTop (mkF m 24 #[iv pk, iv (pk &&& (3 : Int32)), iv (((((pk).toUInt32 >>> ((8 : Int32) &&& 31).toUInt32).toInt32 &&& (255 : Int32))).toUInt32.toUInt16.toUInt32.toInt32), iv (((((pk).toUInt32 >>> ((16 : Int32) &&& 31).toUInt32).toInt32 &&& (255 : Int32))).toUInt32.toUInt16.toUInt32.toInt32)] []))
  refine go_st (fun t k => XS.iloadN X0.here hx rfl (hb hby d3_24) rfl k) ?_
  show Go _ _ _ _ (s₁.setTop (mkF m 25 #[iv pk, iv (pk &&& (3 : Int32)), iv (((((pk).toUInt32 >>> ((8 : Int32) &&& 31).toUInt32).toInt32 &&& (255 : Int32))).toUInt32.toUInt16.toUInt32.toInt32), iv (((((pk).toUInt32 >>> ((16 : Int32) &&& 31).toUInt32).toInt32 &&& (255 : Int32))).toUInt32.toUInt16.toUInt32.toInt32)] [(.int (pk &&& (3 : Int32)))]))
  by_cases hc1 : (pk &&& (3 : Int32)) = (0 : Int32)
  · skip
    refine go_st (fun t k => XS.ifNo X0.here hx rfl (hb hby d3_25) rfl ((if0 _ _).trans (teq (hc1 : (pk &&& (3 : Int32)) = (0 : Int32))).2) k) ?_
    show Go _ _ _ _ (s₁.setTop (mkF m 28 #[iv pk, iv (pk &&& (3 : Int32)), iv (((((pk).toUInt32 >>> ((8 : Int32) &&& 31).toUInt32).toInt32 &&& (255 : Int32))).toUInt32.toUInt16.toUInt32.toInt32), iv (((((pk).toUInt32 >>> ((16 : Int32) &&& 31).toUInt32).toInt32 &&& (255 : Int32))).toUInt32.toUInt16.toUInt32.toInt32)] []))
    refine go_st (fun t k => XS.aconstNull X0.here hx rfl (hb hby d3_28) k) ?_
    show Go _ _ _ _ (s₁.setTop (mkF m 29 #[iv pk, iv (pk &&& (3 : Int32)), iv (((((pk).toUInt32 >>> ((8 : Int32) &&& 31).toUInt32).toInt32 &&& (255 : Int32))).toUInt32.toUInt16.toUInt32.toInt32), iv (((((pk).toUInt32 >>> ((16 : Int32) &&& 31).toUInt32).toInt32 &&& (255 : Int32))).toUInt32.toUInt16.toUInt32.toInt32)] [.null]))
    obtain ⟨fs, hr, hrun, hended, hR⟩ := X0.leaveW hS0 (by rw [e0]; exact (Nat.le_trans hk0 (Nat.le_refl _))) (v := some .null) (fun h => by rw [Bd.returns] at h; cases h)
    refine ⟨_, _, ?_, hrun, hended, _, _, rfl, ?_, ?_, hR.1, hR.2.1, hR.2.2.1, hR.2.2.2.mono (by decide) (by decide)⟩
    · exact retOut X0 hx Bd.returns rfl (Or.inr (Or.inr (Or.inr (Or.inr ⟨rfl, rfl, rfl⟩)))) (hb hby d3_29) hr
    · show Q_str _ _ _ _ _ _ s₁.heap _
      rw [e0]
      exact ⟨.null, false, rfl, N0, (Keep.refl h0 []), rfl, (by unfold sentB; rw [hc1]; decide), (Or.inl ⟨rfl, rfl⟩)⟩
    · show CHr Z consts_1 s.vm s.heap s₁.vm s₁.heap
      rw [hh, e0]
      exact CHr.trans C0 (CHv.at X0 hZ (hEL hw) C0.1)
  · skip
    refine go_st (fun t k => XS.ifYes X0.here hx rfl (pc0 := 25) (pc' := 30) rfl (hb hby d3_25) rfl ((if0 _ _).trans (feq (hc1 : ¬ ((pk &&& (3 : Int32)) = (0 : Int32)))).2) (by decide) (by decide) k) ?_
    show Go _ _ _ _ (s₁.setTop (mkF m 30 #[iv pk, iv (pk &&& (3 : Int32)), iv (((((pk).toUInt32 >>> ((8 : Int32) &&& 31).toUInt32).toInt32 &&& (255 : Int32))).toUInt32.toUInt16.toUInt32.toInt32), iv (((((pk).toUInt32 >>> ((16 : Int32) &&& 31).toUInt32).toInt32 &&& (255 : Int32))).toUInt32.toUInt16.toUInt32.toInt32)] []))
    refine go_st (fun t k => XS.iloadN X0.here hx rfl (hb hby d3_30) rfl k) ?_
    show Go _ _ _ _ (s₁.setTop (mkF m 31 #[iv pk, iv (pk &&& (3 : Int32)), iv (((((pk).toUInt32 >>> ((8 : Int32) &&& 31).toUInt32).toInt32 &&& (255 : Int32))).toUInt32.toUInt16.toUInt32.toInt32), iv (((((pk).toUInt32 >>> ((16 : Int32) &&& 31).toUInt32).toInt32 &&& (255 : Int32))).toUInt32.toUInt16.toUInt32.toInt32)] [(.int (pk &&& (3 : Int32)))]))
    refine go_st (fun t k => XS.iconst X0.here hx rfl (hb hby d3_31) k) ?_
    show Go _ _ _ _ (s₁.setTop (mkF m 32 #[iv pk, iv (pk &&& (3 : Int32)), iv (((((pk).toUInt32 >>> ((8 : Int32) &&& 31).toUInt32).toInt32 &&& (255 : Int32))).toUInt32.toUInt16.toUInt32.toInt32), iv (((((pk).toUInt32 >>> ((16 : Int32) &&& 31).toUInt32).toInt32 &&& (255 : Int32))).toUInt32.toUInt16.toUInt32.toInt32)] [(.int 1), (.int (pk &&& (3 : Int32)))]))
    by_cases hc2 : (pk &&& (3 : Int32)) = (1 : Int32)
    · skip
      refine go_st (fun t k => XS.icmpNo X0.here hx rfl (hb hby d3_32) rfl (teq (hc2 : (pk &&& (3 : Int32)) = (1 : Int32))).2 k) ?_
      show Go _ _ _ _ (s₁.setTop (mkF m 35 #[iv pk, iv (pk &&& (3 : Int32)), iv (((((pk).toUInt32 >>> ((8 : Int32) &&& 31).toUInt32).toInt32 &&& (255 : Int32))).toUInt32.toUInt16.toUInt32.toInt32), iv (((((pk).toUInt32 >>> ((16 : Int32) &&& 31).toUInt32).toInt32 &&& (255 : Int32))).toUInt32.toUInt16.toUInt32.toInt32)] []))
      obtain ⟨li3, T3, h3, kk3, t3, kb3, X3, e3, E3, hS3, hk3, hZ3, hown3, Es3, Cs3, Vs3, As3, lla3, llt3, hC3, -, hne3, st3⟩ := ldcCH (vm0 := s.vm) X0 hx hZ hown (w56 hw) (str_atoms hw) e0 hS0 (Nat.le_trans hk0 (Nat.le_refl _)) (hEL hw) (List.mem_of_getElem? (i := 0) rfl) C0.1 (vs := []) (z := (0 : Int32)) (by decide) (by decide) (by decide) (g := (mkF m 35 #[iv pk, iv (pk &&& (3 : Int32)), iv (((((pk).toUInt32 >>> ((8 : Int32) &&& 31).toUInt32).toInt32 &&& (255 : Int32))).toUInt32.toUInt16.toUInt32.toInt32), iv (((((pk).toUInt32 >>> ((16 : Int32) &&& 31).toUInt32).toInt32 &&& (255 : Int32))).toUInt32.toUInt16.toUInt32.toInt32)] [])) rfl (hb hby d3_35) (n := 0) (by decide) (by decide) (by decide) (by decide)
      have C4 : CHr Z consts_1 s.vm h0 T3.vm h3 := CHr.trans C0 hC3
      refine go_st (fun t k => st3 t k) ?_
      show Go _ _ _ _ (T3.setTop (mkF m 37 #[iv pk, iv (pk &&& (3 : Int32)), iv (((((pk).toUInt32 >>> ((8 : Int32) &&& 31).toUInt32).toInt32 &&& (255 : Int32))).toUInt32.toUInt16.toUInt32.toInt32), iv (((((pk).toUInt32 >>> ((16 : Int32) &&& 31).toUInt32).toInt32 &&& (255 : Int32))).toUInt32.toUInt16.toUInt32.toInt32)] [(.ref li3)]))
      have sl : Str Z h3 li3 t3 [] := Str.of (n := 0) Es3 Vs3 Cs3 As3 rfl (by decide) chars_nil
      have ke5 : Keep h0 h3 [] := (Keep.ext (Keep.refl h0 []) E3)
      obtain ⟨fs, hr, hrun, hended, hR⟩ := X3.leaveW hS3 (by rw [e3]; exact (Nat.le_trans hk3 (Nat.le_refl _))) (v := some (.ref li3)) (fun h => by rw [Bd.returns] at h; cases h)
      refine ⟨_, _, ?_, hrun, hended, _, _, rfl, ?_, ?_, hR.1, hR.2.1, hR.2.2.1, hR.2.2.2.mono (by decide) (by decide)⟩
      · exact retOut X3 hx Bd.returns rfl (Or.inr (Or.inr (Or.inr (Or.inr ⟨rfl, rfl, rfl⟩)))) (hb hby d3_37) hr
      · show Q_str _ _ _ _ _ _ T3.heap _
        rw [e3]
        exact ⟨(.ref li3), false, rfl, N0, ke5, rfl, (by unfold sentB; rw [hc2]; decide), (Or.inr (Or.inl ⟨_, _, rfl, sl, rfl⟩))⟩
      · show CHr Z consts_1 s.vm s.heap T3.vm T3.heap
        rw [hh, e3]
        exact CHr.trans C4 (CHv.at X3 hZ3 (hEL hw) C4.1)
    · skip
      refine go_st (fun t k => XS.icmpYes X0.here hx rfl (pc0 := 32) (pc' := 38) rfl (hb hby d3_32) rfl (feq (hc2 : ¬ ((pk &&& (3 : Int32)) = (1 : Int32)))).2 (by decide) (by decide) k) ?_
      show Go _ _ _ _ (s₁.setTop (mkF m 38 #[iv pk, iv (pk &&& (3 : Int32)), iv (((((pk).toUInt32 >>> ((8 : Int32) &&& 31).toUInt32).toInt32 &&& (255 : Int32))).toUInt32.toUInt16.toUInt32.toInt32), iv (((((pk).toUInt32 >>> ((16 : Int32) &&& 31).toUInt32).toInt32 &&& (255 : Int32))).toUInt32.toUInt16.toUInt32.toInt32)] []))
      refine go_st (fun t k => XS.iloadN X0.here hx rfl (hb hby d3_38) rfl k) ?_
      show Go _ _ _ _ (s₁.setTop (mkF m 39 #[iv pk, iv (pk &&& (3 : Int32)), iv (((((pk).toUInt32 >>> ((8 : Int32) &&& 31).toUInt32).toInt32 &&& (255 : Int32))).toUInt32.toUInt16.toUInt32.toInt32), iv (((((pk).toUInt32 >>> ((16 : Int32) &&& 31).toUInt32).toInt32 &&& (255 : Int32))).toUInt32.toUInt16.toUInt32.toInt32)] [(.int (pk &&& (3 : Int32)))]))
      refine go_st (fun t k => XS.iconst X0.here hx rfl (hb hby d3_39) k) ?_
      show Go _ _ _ _ (s₁.setTop (mkF m 40 #[iv pk, iv (pk &&& (3 : Int32)), iv (((((pk).toUInt32 >>> ((8 : Int32) &&& 31).toUInt32).toInt32 &&& (255 : Int32))).toUInt32.toUInt16.toUInt32.toInt32), iv (((((pk).toUInt32 >>> ((16 : Int32) &&& 31).toUInt32).toInt32 &&& (255 : Int32))).toUInt32.toUInt16.toUInt32.toInt32)] [(.int 2), (.int (pk &&& (3 : Int32)))]))
      by_cases hc6 : (pk &&& (3 : Int32)) = (2 : Int32)
      · skip
        refine go_st (fun t k => XS.icmpNo X0.here hx rfl (hb hby d3_40) rfl (teq (hc6 : (pk &&& (3 : Int32)) = (2 : Int32))).2 k) ?_
        show Go _ _ _ _ (s₁.setTop (mkF m 43 #[iv pk, iv (pk &&& (3 : Int32)), iv (((((pk).toUInt32 >>> ((8 : Int32) &&& 31).toUInt32).toInt32 &&& (255 : Int32))).toUInt32.toUInt16.toUInt32.toInt32), iv (((((pk).toUInt32 >>> ((16 : Int32) &&& 31).toUInt32).toInt32 &&& (255 : Int32))).toUInt32.toUInt16.toUInt32.toInt32)] []))
        obtain ⟨T7, h7, X7, e7, E7, A7, D7, -, st7⟩ := newO X0 hx hZ hown (w4 hw) (w5 hw) (w6 hw) e0 (g := (mkF m 43 #[iv pk, iv (pk &&& (3 : Int32)), iv (((((pk).toUInt32 >>> ((8 : Int32) &&& 31).toUInt32).toInt32 &&& (255 : Int32))).toUInt32.toUInt16.toUInt32.toInt32), iv (((((pk).toUInt32 >>> ((16 : Int32) &&& 31).toUInt32).toInt32 &&& (255 : Int32))).toUInt32.toUInt16.toUInt32.toInt32)] [])) rfl (hb hby d3_43) (by decide) (by decide)
        obtain ⟨b7, gq7⟩ : ∃ z, z = h0.size := ⟨_, rfl⟩
        rw [← gq7] at A7 D7 st7
        have sn7 : Safe Z consts_1 s.vm h0 b7 := Safe.new (Nat.le_of_eq gq7.symm)
        have C8 : CHr Z consts_1 s.vm h0 s.vm h7 := CHr.trans C0 (CHr.ext E7 C0.1)
        have sf9 : Safe Z consts_1 s.vm h7 b7 := Safe.ext E7 C0.1 sn7
        have f10 : Fld Z h7 b7 "java/lang/String" "coder" "B" (.int 0) := D7 (Or.inr (w31 hw)) (ty := .byte) (by decide)
        have f11 : Fld Z h7 b7 "java/lang/String" "value" "[B" .null := D7 (Or.inr (w33 hw)) (ty := (.array .byte)) (by decide)
        refine go_st (fun t k => st7 t k) ?_
        show Go _ _ _ _ (T7.setTop (mkF m 46 #[iv pk, iv (pk &&& (3 : Int32)), iv (((((pk).toUInt32 >>> ((8 : Int32) &&& 31).toUInt32).toInt32 &&& (255 : Int32))).toUInt32.toUInt16.toUInt32.toInt32), iv (((((pk).toUInt32 >>> ((16 : Int32) &&& 31).toUInt32).toInt32 &&& (255 : Int32))).toUInt32.toUInt16.toUInt32.toInt32)] [(.ref b7)]))
        refine go_st (fun t k => XS.dup X7.here hx rfl (hb hby d3_46) rfl rfl k) ?_
        show Go _ _ _ _ (T7.setTop (mkF m 47 #[iv pk, iv (pk &&& (3 : Int32)), iv (((((pk).toUInt32 >>> ((8 : Int32) &&& 31).toUInt32).toInt32 &&& (255 : Int32))).toUInt32.toUInt16.toUInt32.toInt32), iv (((((pk).toUInt32 >>> ((16 : Int32) &&& 31).toUInt32).toInt32 &&& (255 : Int32))).toUInt32.toUInt16.toUInt32.toInt32)] [(.ref b7), (.ref b7)]))
        refine go_st (fun t k => XS.iconst X7.here hx rfl (hb hby d3_47) k) ?_
        show Go _ _ _ _ (T7.setTop (mkF m 48 #[iv pk, iv (pk &&& (3 : Int32)), iv (((((pk).toUInt32 >>> ((8 : Int32) &&& 31).toUInt32).toInt32 &&& (255 : Int32))).toUInt32.toUInt16.toUInt32.toInt32), iv (((((pk).toUInt32 >>> ((16 : Int32) &&& 31).toUInt32).toInt32 &&& (255 : Int32))).toUInt32.toUInt16.toUInt32.toInt32)] [(.int 1), (.ref b7), (.ref b7)]))
        obtain ⟨T12, h12, kc12, X12, e12, E12, A12, st12⟩ := newP X7 hx hZ (aty := .char) (w7 hw) e7 (g := (mkF m 48 #[iv pk, iv (pk &&& (3 : Int32)), iv (((((pk).toUInt32 >>> ((8 : Int32) &&& 31).toUInt32).toInt32 &&& (255 : Int32))).toUInt32.toUInt16.toUInt32.toInt32), iv (((((pk).toUInt32 >>> ((16 : Int32) &&& 31).toUInt32).toInt32 &&& (255 : Int32))).toUInt32.toUInt16.toUInt32.toInt32)] [(.int 1), (.ref b7), (.ref b7)])) rfl (hb hby d3_48) rfl (by decide) (cap := 1) (by decide) (by decide) (by decide) (by decide)
        obtain ⟨b12, gq12⟩ : ∃ z, z = h7.size := ⟨_, rfl⟩
        rw [← gq12] at A12 st12
        have C13 : CHr Z consts_1 s.vm h0 s.vm h12 := CHr.trans C8 (CHr.ext E12 C8.1)
        have sf14 : Safe Z consts_1 s.vm h12 b7 := (Safe.ext E12 C8.1 sf9)
        have f15 : Arv Z h12 b12 kc12 .char (1 : Int32) [(.int 0)] (.int 0) := (Arv.new A12 (by decide)).pad (pad_rep [] (.int 0) 1)
        refine go_st (fun t k => st12 t k) ?_
        show Go _ _ _ _ (T12.setTop (mkF m 50 #[iv pk, iv (pk &&& (3 : Int32)), iv (((((pk).toUInt32 >>> ((8 : Int32) &&& 31).toUInt32).toInt32 &&& (255 : Int32))).toUInt32.toUInt16.toUInt32.toInt32), iv (((((pk).toUInt32 >>> ((16 : Int32) &&& 31).toUInt32).toInt32 &&& (255 : Int32))).toUInt32.toUInt16.toUInt32.toInt32)] [(.ref b12), (.ref b7), (.ref b7)]))
        refine go_st (fun t k => XS.dup X12.here hx rfl (hb hby d3_50) rfl rfl k) ?_
        show Go _ _ _ _ (T12.setTop (mkF m 51 #[iv pk, iv (pk &&& (3 : Int32)), iv (((((pk).toUInt32 >>> ((8 : Int32) &&& 31).toUInt32).toInt32 &&& (255 : Int32))).toUInt32.toUInt16.toUInt32.toInt32), iv (((((pk).toUInt32 >>> ((16 : Int32) &&& 31).toUInt32).toInt32 &&& (255 : Int32))).toUInt32.toUInt16.toUInt32.toInt32)] [(.ref b12), (.ref b12), (.ref b7), (.ref b7)]))
        refine go_st (fun t k => XS.iconst X12.here hx rfl (hb hby d3_51) k) ?_
        show Go _ _ _ _ (T12.setTop (mkF m 52 #[iv pk, iv (pk &&& (3 : Int32)), iv (((((pk).toUInt32 >>> ((8 : Int32) &&& 31).toUInt32).toInt32 &&& (255 : Int32))).toUInt32.toUInt16.toUInt32.toInt32), iv (((((pk).toUInt32 >>> ((16 : Int32) &&& 31).toUInt32).toInt32 &&& (255 : Int32))).toUInt32.toUInt16.toUInt32.toInt32)] [(.int 0), (.ref b12), (.ref b12), (.ref b7), (.ref b7)]))
        refine go_st (fun t k => XS.iloadN X12.here hx rfl (hb hby d3_52) rfl k) ?_
        show Go _ _ _ _ (T12.setTop (mkF m 53 #[iv pk, iv (pk &&& (3 : Int32)), iv (((((pk).toUInt32 >>> ((8 : Int32) &&& 31).toUInt32).toInt32 &&& (255 : Int32))).toUInt32.toUInt16.toUInt32.toInt32), iv (((((pk).toUInt32 >>> ((16 : Int32) &&& 31).toUInt32).toInt32 &&& (255 : Int32))).toUInt32.toUInt16.toUInt32.toInt32)] [(.int (((((pk).toUInt32 >>> ((8 : Int32) &&& 31).toUInt32).toInt32 &&& (255 : Int32))).toUInt32.toUInt16.toUInt32.toInt32)), (.int 0), (.ref b12), (.ref b12), (.ref b7), (.ref b7)]))
        obtain ⟨zc16, zA16, zq16, zS16, zN16, zH16, zG16⟩ := id f15
        have hin16 : ¬ ((0 : Int32) < 0 ∨ zc16.slots.size ≤ ((0 : Int32)).toNatClampNeg) := inb_of zS16 ⟨by decide, by decide⟩
        obtain ⟨T16, h16, X16, e16, W16, st16⟩ := stC X12 hx hZ e12 zA16 (j := (0 : Int32)) hin16 (g := (mkF m 53 #[iv pk, iv (pk &&& (3 : Int32)), iv (((((pk).toUInt32 >>> ((8 : Int32) &&& 31).toUInt32).toInt32 &&& (255 : Int32))).toUInt32.toUInt16.toUInt32.toInt32), iv (((((pk).toUInt32 >>> ((16 : Int32) &&& 31).toUInt32).toInt32 &&& (255 : Int32))).toUInt32.toUInt16.toUInt32.toInt32)] [(.int (((((pk).toUInt32 >>> ((8 : Int32) &&& 31).toUInt32).toInt32 &&& (255 : Int32))).toUInt32.toUInt16.toUInt32.toInt32)), (.int 0), (.ref b12), (.ref b12), (.ref b7), (.ref b7)])) rfl rfl (hb hby d3_53)
        have g_b12 : n0 ≤ b12 := Nat.le_trans (Nat.le_trans Z0 E7.1) (Nat.le_of_eq gq12.symm)
        have N16 := Fr.snoc X16 N0 g_b12
        have C17 : CHr Z consts_1 s.vm h0 s.vm h16 := CHr.trans C13 (CHr.wr W16 (Safe.arv hZ.alike f15 (by decide)) C13.1)
        have sf18 : Safe Z consts_1 s.vm h16 b7 := (Safe.wr W16 (Safe.arv hZ.alike f15 (by decide)) C13.1 sf14)
        have f19 : Arv Z h16 b12 kc12 .char (1 : Int32) [(.int (nar .char (((((pk).toUInt32 >>> ((8 : Int32) &&& 31).toUInt32).toInt32 &&& (255 : Int32))).toUInt32.toUInt16.toUInt32.toInt32)))] (.int 0) := Arv.set zA16 zq16 zS16 zN16 zH16 zG16 (fits_nar_char _) W16 0 rfl (Nat.le_of_ble_eq_true rfl)
        refine go_st (fun t k => st16 t k) ?_
        show Go _ _ _ _ (T16.setTop (mkF m 54 #[iv pk, iv (pk &&& (3 : Int32)), iv (((((pk).toUInt32 >>> ((8 : Int32) &&& 31).toUInt32).toInt32 &&& (255 : Int32))).toUInt32.toUInt16.toUInt32.toInt32), iv (((((pk).toUInt32 >>> ((16 : Int32) &&& 31).toUInt32).toInt32 &&& (255 : Int32))).toUInt32.toUInt16.toUInt32.toInt32)] [(.ref b12), (.ref b7), (.ref b7)]))
        have f20 : Exa Z h16 b7 "java/lang/String" := ((A7.ext E12).wr W16)
        have nq21 : b7 ≠ b12 := Nat.ne_of_lt (Nat.lt_of_lt_of_le (Nat.lt_of_lt_of_le A7.lt (Nat.le_refl _)) (Nat.le_of_eq gq12.symm))
        have f22 : Fld Z h16 b7 "java/lang/String" "value" "[B" .null := ((f11.ext E12).other W16 (Or.inl nq21))
        have f23 : Fld Z h16 b7 "java/lang/String" "coder" "B" (.int 0) := ((f10.ext E12).other W16 (Or.inl nq21))
        have oe24 : Old Z n0 h7 := (Old.ext O0 E7)
        have oe25 : Old Z n0 h12 := (Old.ext oe24 E12)
        have oe26 : Old Z n0 h16 := (Old.wr oe25 W16 g_b12)
        have g_b7 : n0 ≤ b7 := Nat.le_trans (Nat.le_trans Z0 (Nat.le_refl _)) (Nat.le_of_eq gq7.symm)
        have sz27 : h0.size ≤ h12.size := (Nat.le_trans E7.1 E12.1)
        have sz28 : h0.size ≤ h16.size := (Nat.le_trans sz27 (Nat.le_of_eq W16.size.symm))
        obtain ⟨_, _, ⟨T29, L29, kk29, nn29⟩, -, X29, ⟨Lc29, hQ29, lq29, yq29, zq29⟩, st29⟩ := X16.specialBack hx (y := (⟨"java/lang/String", "<init>", "([C)V"⟩ : MethodName)) rfl hown (mvT hZ (w8 hw)) (mvT hZ (w9 hw)) (mvT hZ (w10 hw)) (by decide) (StrChars.Road.backV (W := 1) hZ (words_in str_words hw) (kI := 4) (w5 hw) (cs := ([(nar .char (((((pk).toUInt32 >>> ((8 : Int32) &&& 31).toUInt32).toInt32 &&& (255 : Int32))).toUInt32.toUInt16.toUInt32.toInt32))] : List Int32)) (bs := ([(nar .char (((((pk).toUInt32 >>> ((8 : Int32) &&& 31).toUInt32).toInt32 &&& (255 : Int32))).toUInt32.toUInt16.toUInt32.toInt32))] : List Int32).map (fun c => c.toInt8.toInt32)) (n := 1) g_b7 (Nat.le_trans Z0 sz28) f20 f22 f23 f19 (Sta.ext oe26.2 CS) CSn rfl rfl (by decide) (by decide) (chars_cons (and255_chars _) chars_nil) rfl (by decide) (by decide)) (g := (mkF m 54 #[iv pk, iv (pk &&& (3 : Int32)), iv (((((pk).toUInt32 >>> ((8 : Int32) &&& 31).toUInt32).toInt32 &&& (255 : Int32))).toUInt32.toUInt16.toUInt32.toInt32), iv (((((pk).toUInt32 >>> ((16 : Int32) &&& 31).toUInt32).toInt32 &&& (255 : Int32))).toUInt32.toUInt16.toUInt32.toInt32)] [(.ref b12), (.ref b7), (.ref b7)])) rfl (by rw [hml]; rfl) (Steps.refl _) (a := b7) (argsL := [(.ref b12)]) (rest := [(.ref b7)]) (lenOf pd_2 rfl) rfl (by show 2 * 0 + _ ≤ _; exact Nat.le_of_eq rfl) (hb hby d3_54) (fun _ _ => ⟨rfl, e16, (by decide : 2 + 1 ≤ _), (by decide : 5 + 1 ≤ _)⟩)
        dsimp only [Pt.U, Pt.locs, Pt.cells, Pt.slots] at X29 lq29 yq29 zq29 st29 hQ29
        subst lq29 yq29 zq29
        obtain ⟨h29, e29⟩ : ∃ z, T29.heap = z := ⟨_, rfl⟩
        rw [e29] at hQ29
        obtain ⟨rfl, N29q, K29, Es29, Cs29, t29, kb29, gt29, lt29, nt29, Vs29, As29⟩ := hQ29
        have N29 := Fr.app N16 N29q
        have C30 : CHr Z consts_1 s.vm h0 s.vm h29 := CHr.trans C17 (CHr.keep K29 (sfS sf18 sf0) C17.1)
        have sf31 : Safe Z consts_1 s.vm h29 b7 := (Safe.keep K29 (sfS sf18 sf0) C17.1 sf18)
        refine go_tr st29 ?_
        show Go _ _ _ _ (T29.setTop (mkF m 57 #[iv pk, iv (pk &&& (3 : Int32)), iv (((((pk).toUInt32 >>> ((8 : Int32) &&& 31).toUInt32).toInt32 &&& (255 : Int32))).toUInt32.toUInt16.toUInt32.toInt32), iv (((((pk).toUInt32 >>> ((16 : Int32) &&& 31).toUInt32).toInt32 &&& (255 : Int32))).toUInt32.toUInt16.toUInt32.toInt32)] [(.ref b7)]))
        have sS32 : Str Z h29 b7 t29 ([(nar .char (((((pk).toUInt32 >>> ((8 : Int32) &&& 31).toUInt32).toInt32 &&& (255 : Int32))).toUInt32.toUInt16.toUInt32.toInt32))] : List Int32) := Str.of (n := 1) Es29 Vs29 Cs29 As29 rfl (by decide) (chars_cons (and255_chars _) chars_nil)
        have ke33 : Keep h0 h7 [] := (Keep.ext (Keep.refl h0 []) E7)
        have ke34 : Keep h0 h12 [] := (Keep.ext ke33 E12)
        have ke35 : Keep h0 h16 [] := (Keep.wr ke34 W16 (Or.inr (Nat.le_trans E7.1 (Nat.le_of_eq gq12.symm))))
        have ke36 : Keep h0 h29 [] := (Keep.trans ke35 K29 (allS (Or.inr (Nat.le_of_eq gq7.symm)) all0))
        have sz37 : h0.size ≤ h29.size := (Nat.le_trans sz28 K29.1)
        obtain ⟨fs, hr, hrun, hended, hR⟩ := X29.leaveW hS0 (by rw [e29]; exact (Nat.le_trans hk0 sz37)) (v := some (.ref b7)) (fun h => by rw [Bd.returns] at h; cases h)
        refine ⟨_, _, ?_, hrun, hended, _, _, rfl, ?_, ?_, hR.1, hR.2.1, hR.2.2.1, hR.2.2.2.mono (by decide) (by decide)⟩
        · exact retOut X29 hx Bd.returns rfl (Or.inr (Or.inr (Or.inr (Or.inr ⟨rfl, rfl, rfl⟩)))) (hb hby d3_57) hr
        · show Q_str _ _ _ _ _ _ T29.heap _
          rw [e29]
          exact ⟨(.ref b7), true, rfl, N29, ke36, rfl, (by unfold sentB; rw [hc6]; decide), (Or.inr (Or.inr ⟨_, _, _, _, rfl, sS32, rfl⟩))⟩
        · show CHr Z consts_1 s.vm s.heap T29.vm T29.heap
          rw [hh, e29]
          exact CHr.trans C30 (CHv.at X29 hZ (hEL hw) C30.1)
      · skip
        refine go_st (fun t k => XS.icmpYes X0.here hx rfl (pc0 := 40) (pc' := 58) rfl (hb hby d3_40) rfl (feq (hc6 : ¬ ((pk &&& (3 : Int32)) = (2 : Int32)))).2 (by decide) (by decide) k) ?_
        show Go _ _ _ _ (s₁.setTop (mkF m 58 #[iv pk, iv (pk &&& (3 : Int32)), iv (((((pk).toUInt32 >>> ((8 : Int32) &&& 31).toUInt32).toInt32 &&& (255 : Int32))).toUInt32.toUInt16.toUInt32.toInt32), iv (((((pk).toUInt32 >>> ((16 : Int32) &&& 31).toUInt32).toInt32 &&& (255 : Int32))).toUInt32.toUInt16.toUInt32.toInt32)] []))
        obtain ⟨T38, h38, X38, e38, E38, A38, D38, -, st38⟩ := newO X0 hx hZ hown (w4 hw) (w5 hw) (w6 hw) e0 (g := (mkF m 58 #[iv pk, iv (pk &&& (3 : Int32)), iv (((((pk).toUInt32 >>> ((8 : Int32) &&& 31).toUInt32).toInt32 &&& (255 : Int32))).toUInt32.toUInt16.toUInt32.toInt32), iv (((((pk).toUInt32 >>> ((16 : Int32) &&& 31).toUInt32).toInt32 &&& (255 : Int32))).toUInt32.toUInt16.toUInt32.toInt32)] [])) rfl (hb hby d3_58) (by decide) (by decide)
        obtain ⟨b38, gq38⟩ : ∃ z, z = h0.size := ⟨_, rfl⟩
        rw [← gq38] at A38 D38 st38
        have sn38 : Safe Z consts_1 s.vm h0 b38 := Safe.new (Nat.le_of_eq gq38.symm)
        have C39 : CHr Z consts_1 s.vm h0 s.vm h38 := CHr.trans C0 (CHr.ext E38 C0.1)
        have sf40 : Safe Z consts_1 s.vm h38 b38 := Safe.ext E38 C0.1 sn38
        have f41 : Fld Z h38 b38 "java/lang/String" "coder" "B" (.int 0) := D38 (Or.inr (w31 hw)) (ty := .byte) (by decide)
        have f42 : Fld Z h38 b38 "java/lang/String" "value" "[B" .null := D38 (Or.inr (w33 hw)) (ty := (.array .byte)) (by decide)
        refine go_st (fun t k => st38 t k) ?_
        show Go _ _ _ _ (T38.setTop (mkF m 61 #[iv pk, iv (pk &&& (3 : Int32)), iv (((((pk).toUInt32 >>> ((8 : Int32) &&& 31).toUInt32).toInt32 &&& (255 : Int32))).toUInt32.toUInt16.toUInt32.toInt32), iv (((((pk).toUInt32 >>> ((16 : Int32) &&& 31).toUInt32).toInt32 &&& (255 : Int32))).toUInt32.toUInt16.toUInt32.toInt32)] [(.ref b38)]))
        refine go_st (fun t k => XS.dup X38.here hx rfl (hb hby d3_61) rfl rfl k) ?_
        show Go _ _ _ _ (T38.setTop (mkF m 62 #[iv pk, iv (pk &&& (3 : Int32)), iv (((((pk).toUInt32 >>> ((8 : Int32) &&& 31).toUInt32).toInt32 &&& (255 : Int32))).toUInt32.toUInt16.toUInt32.toInt32), iv (((((pk).toUInt32 >>> ((16 : Int32) &&& 31).toUInt32).toInt32 &&& (255 : Int32))).toUInt32.toUInt16.toUInt32.toInt32)] [(.ref b38), (.ref b38)]))
        refine go_st (fun t k => XS.iconst X38.here hx rfl (hb hby d3_62) k) ?_
        show Go _ _ _ _ (T38.setTop (mkF m 63 #[iv pk, iv (pk &&& (3 : Int32)), iv (((((pk).toUInt32 >>> ((8 : Int32) &&& 31).toUInt32).toInt32 &&& (255 : Int32))).toUInt32.toUInt16.toUInt32.toInt32), iv (((((pk).toUInt32 >>> ((16 : Int32) &&& 31).toUInt32).toInt32 &&& (255 : Int32))).toUInt32.toUInt16.toUInt32.toInt32)] [(.int 2), (.ref b38), (.ref b38)]))
        obtain ⟨T43, h43, kc43, X43, e43, E43, A43, st43⟩ := newP X38 hx hZ (aty := .char) (w7 hw) e38 (g := (mkF m 63 #[iv pk, iv (pk &&& (3 : Int32)), iv (((((pk).toUInt32 >>> ((8 : Int32) &&& 31).toUInt32).toInt32 &&& (255 : Int32))).toUInt32.toUInt16.toUInt32.toInt32), iv (((((pk).toUInt32 >>> ((16 : Int32) &&& 31).toUInt32).toInt32 &&& (255 : Int32))).toUInt32.toUInt16.toUInt32.toInt32)] [(.int 2), (.ref b38), (.ref b38)])) rfl (hb hby d3_63) rfl (by decide) (cap := 2) (by decide) (by decide) (by decide) (by decide)
        obtain ⟨b43, gq43⟩ : ∃ z, z = h38.size := ⟨_, rfl⟩
        rw [← gq43] at A43 st43
        have C44 : CHr Z consts_1 s.vm h0 s.vm h43 := CHr.trans C39 (CHr.ext E43 C39.1)
        have sf45 : Safe Z consts_1 s.vm h43 b38 := (Safe.ext E43 C39.1 sf40)
        have f46 : Arv Z h43 b43 kc43 .char (2 : Int32) [(.int 0), (.int 0)] (.int 0) := (Arv.new A43 (by decide)).pad (pad_rep [] (.int 0) 2)
        refine go_st (fun t k => st43 t k) ?_
        show Go _ _ _ _ (T43.setTop (mkF m 65 #[iv pk, iv (pk &&& (3 : Int32)), iv (((((pk).toUInt32 >>> ((8 : Int32) &&& 31).toUInt32).toInt32 &&& (255 : Int32))).toUInt32.toUInt16.toUInt32.toInt32), iv (((((pk).toUInt32 >>> ((16 : Int32) &&& 31).toUInt32).toInt32 &&& (255 : Int32))).toUInt32.toUInt16.toUInt32.toInt32)] [(.ref b43), (.ref b38), (.ref b38)]))
        refine go_st (fun t k => XS.dup X43.here hx rfl (hb hby d3_65) rfl rfl k) ?_
        show Go _ _ _ _ (T43.setTop (mkF m 66 #[iv pk, iv (pk &&& (3 : Int32)), iv (((((pk).toUInt32 >>> ((8 : Int32) &&& 31).toUInt32).toInt32 &&& (255 : Int32))).toUInt32.toUInt16.toUInt32.toInt32), iv (((((pk).toUInt32 >>> ((16 : Int32) &&& 31).toUInt32).toInt32 &&& (255 : Int32))).toUInt32.toUInt16.toUInt32.toInt32)] [(.ref b43), (.ref b43), (.ref b38), (.ref b38)]))
        refine go_st (fun t k => XS.iconst X43.here hx rfl (hb hby d3_66) k) ?_
        show Go _ _ _ _ (T43.setTop (mkF m 67 #[iv pk, iv (pk &&& (3 : Int32)), iv (((((pk).toUInt32 >>> ((8 : Int32) &&& 31).toUInt32).toInt32 &&& (255 : Int32))).toUInt32.toUInt16.toUInt32.toInt32), iv (((((pk).toUInt32 >>> ((16 : Int32) &&& 31).toUInt32).toInt32 &&& (255 : Int32))).toUInt32.toUInt16.toUInt32.toInt32)] [(.int 0), (.ref b43), (.ref b43), (.ref b38), (.ref b38)]))
        refine go_st (fun t k => XS.iloadN X43.here hx rfl (hb hby d3_67) rfl k) ?_
        show Go _ _ _ _ (T43.setTop (mkF m 68 #[iv pk, iv (pk &&& (3 : Int32)), iv (((((pk).toUInt32 >>> ((8 : Int32) &&& 31).toUInt32).toInt32 &&& (255 : Int32))).toUInt32.toUInt16.toUInt32.toInt32), iv (((((pk).toUInt32 >>> ((16 : Int32) &&& 31).toUInt32).toInt32 &&& (255 : Int32))).toUInt32.toUInt16.toUInt32.toInt32)] [(.int (((((pk).toUInt32 >>> ((8 : Int32) &&& 31).toUInt32).toInt32 &&& (255 : Int32))).toUInt32.toUInt16.toUInt32.toInt32)), (.int 0), (.ref b43), (.ref b43), (.ref b38), (.ref b38)]))
        obtain ⟨zc47, zA47, zq47, zS47, zN47, zH47, zG47⟩ := id f46
        have hin47 : ¬ ((0 : Int32) < 0 ∨ zc47.slots.size ≤ ((0 : Int32)).toNatClampNeg) := inb_of zS47 ⟨by decide, by decide⟩
        obtain ⟨T47, h47, X47, e47, W47, st47⟩ := stC X43 hx hZ e43 zA47 (j := (0 : Int32)) hin47 (g := (mkF m 68 #[iv pk, iv (pk &&& (3 : Int32)), iv (((((pk).toUInt32 >>> ((8 : Int32) &&& 31).toUInt32).toInt32 &&& (255 : Int32))).toUInt32.toUInt16.toUInt32.toInt32), iv (((((pk).toUInt32 >>> ((16 : Int32) &&& 31).toUInt32).toInt32 &&& (255 : Int32))).toUInt32.toUInt16.toUInt32.toInt32)] [(.int (((((pk).toUInt32 >>> ((8 : Int32) &&& 31).toUInt32).toInt32 &&& (255 : Int32))).toUInt32.toUInt16.toUInt32.toInt32)), (.int 0), (.ref b43), (.ref b43), (.ref b38), (.ref b38)])) rfl rfl (hb hby d3_68)
        have g_b43 : n0 ≤ b43 := Nat.le_trans (Nat.le_trans Z0 E38.1) (Nat.le_of_eq gq43.symm)
        have N47 := Fr.snoc X47 N0 g_b43
        have C48 : CHr Z consts_1 s.vm h0 s.vm h47 := CHr.trans C44 (CHr.wr W47 (Safe.arv hZ.alike f46 (by decide)) C44.1)
        have sf49 : Safe Z consts_1 s.vm h47 b38 := (Safe.wr W47 (Safe.arv hZ.alike f46 (by decide)) C44.1 sf45)
        have f50 : Arv Z h47 b43 kc43 .char (2 : Int32) [(.int (nar .char (((((pk).toUInt32 >>> ((8 : Int32) &&& 31).toUInt32).toInt32 &&& (255 : Int32))).toUInt32.toUInt16.toUInt32.toInt32))), (.int 0)] (.int 0) := Arv.set zA47 zq47 zS47 zN47 zH47 zG47 (fits_nar_char _) W47 0 rfl (Nat.le_of_ble_eq_true rfl)
        refine go_st (fun t k => st47 t k) ?_
        show Go _ _ _ _ (T47.setTop (mkF m 69 #[iv pk, iv (pk &&& (3 : Int32)), iv (((((pk).toUInt32 >>> ((8 : Int32) &&& 31).toUInt32).toInt32 &&& (255 : Int32))).toUInt32.toUInt16.toUInt32.toInt32), iv (((((pk).toUInt32 >>> ((16 : Int32) &&& 31).toUInt32).toInt32 &&& (255 : Int32))).toUInt32.toUInt16.toUInt32.toInt32)] [(.ref b43), (.ref b38), (.ref b38)]))
        refine go_st (fun t k => XS.dup X47.here hx rfl (hb hby d3_69) rfl rfl k) ?_
        show Go _ _ _ _ (T47.setTop (mkF m 70 #[iv pk, iv (pk &&& (3 : Int32)), iv (((((pk).toUInt32 >>> ((8 : Int32) &&& 31).toUInt32).toInt32 &&& (255 : Int32))).toUInt32.toUInt16.toUInt32.toInt32), iv (((((pk).toUInt32 >>> ((16 : Int32) &&& 31).toUInt32).toInt32 &&& (255 : Int32))).toUInt32.toUInt16.toUInt32.toInt32)] [(.ref b43), (.ref b43), (.ref b38), (.ref b38)]))
        refine go_st (fun t k => XS.iconst X47.here hx rfl (hb hby d3_70) k) ?_
        show Go _ _ _ _ (T47.setTop (mkF m 71 #[iv pk, iv (pk &&& (3 : Int32)), iv (((((pk).toUInt32 >>> ((8 : Int32) &&& 31).toUInt32).toInt32 &&& (255 : Int32))).toUInt32.toUInt16.toUInt32.toInt32), iv (((((pk).toUInt32 >>> ((16 : Int32) &&& 31).toUInt32).toInt32 &&& (255 : Int32))).toUInt32.toUInt16.toUInt32.toInt32)] [(.int 1), (.ref b43), (.ref b43), (.ref b38), (.ref b38)]))
        refine go_st (fun t k => XS.iloadN X47.here hx rfl (hb hby d3_71) rfl k) ?_
        show Go _ _ _ _ (T47.setTop (mkF m 72 #[iv pk, iv (pk &&& (3 : Int32)), iv (((((pk).toUInt32 >>> ((8 : Int32) &&& 31).toUInt32).toInt32 &&& (255 : Int32))).toUInt32.toUInt16.toUInt32.toInt32), iv (((((pk).toUInt32 >>> ((16 : Int32) &&& 31).toUInt32).toInt32 &&& (255 : Int32))).toUInt32.toUInt16.toUInt32.toInt32)] [(.int (((((pk).toUInt32 >>> ((16 : Int32) &&& 31).toUInt32).toInt32 &&& (255 : Int32))).toUInt32.toUInt16.toUInt32.toInt32)), (.int 1), (.ref b43), (.ref b43), (.ref b38), (.ref b38)]))
        obtain ⟨zc51, zA51, zq51, zS51, zN51, zH51, zG51⟩ := id f50
        have hin51 : ¬ ((1 : Int32) < 0 ∨ zc51.slots.size ≤ ((1 : Int32)).toNatClampNeg) := inb_of zS51 ⟨by decide, by decide⟩
        obtain ⟨T51, h51, X51, e51, W51, st51⟩ := stC X47 hx hZ e47 zA51 (j := (1 : Int32)) hin51 (g := (mkF m 72 #[iv pk, iv (pk &&& (3 : Int32)), iv (((((pk).toUInt32 >>> ((8 : Int32) &&& 31).toUInt32).toInt32 &&& (255 : Int32))).toUInt32.toUInt16.toUInt32.toInt32), iv (((((pk).toUInt32 >>> ((16 : Int32) &&& 31).toUInt32).toInt32 &&& (255 : Int32))).toUInt32.toUInt16.toUInt32.toInt32)] [(.int (((((pk).toUInt32 >>> ((16 : Int32) &&& 31).toUInt32).toInt32 &&& (255 : Int32))).toUInt32.toUInt16.toUInt32.toInt32)), (.int 1), (.ref b43), (.ref b43), (.ref b38), (.ref b38)])) rfl rfl (hb hby d3_72)
        have N51 := Fr.snoc X51 N47 g_b43
        have C52 : CHr Z consts_1 s.vm h0 s.vm h51 := CHr.trans C48 (CHr.wr W51 (Safe.arv hZ.alike f50 (by decide)) C48.1)
        have sf53 : Safe Z consts_1 s.vm h51 b38 := (Safe.wr W51 (Safe.arv hZ.alike f50 (by decide)) C48.1 sf49)
        have f54 : Arv Z h51 b43 kc43 .char (2 : Int32) [(.int (nar .char (((((pk).toUInt32 >>> ((8 : Int32) &&& 31).toUInt32).toInt32 &&& (255 : Int32))).toUInt32.toUInt16.toUInt32.toInt32))), (.int (nar .char (((((pk).toUInt32 >>> ((16 : Int32) &&& 31).toUInt32).toInt32 &&& (255 : Int32))).toUInt32.toUInt16.toUInt32.toInt32)))] (.int 0) := Arv.set zA51 zq51 zS51 zN51 zH51 zG51 (fits_nar_char _) W51 1 rfl (Nat.le_of_ble_eq_true rfl)
        refine go_st (fun t k => st51 t k) ?_
        show Go _ _ _ _ (T51.setTop (mkF m 73 #[iv pk, iv (pk &&& (3 : Int32)), iv (((((pk).toUInt32 >>> ((8 : Int32) &&& 31).toUInt32).toInt32 &&& (255 : Int32))).toUInt32.toUInt16.toUInt32.toInt32), iv (((((pk).toUInt32 >>> ((16 : Int32) &&& 31).toUInt32).toInt32 &&& (255 : Int32))).toUInt32.toUInt16.toUInt32.toInt32)] [(.ref b43), (.ref b38), (.ref b38)]))
        have f55 : Exa Z h51 b38 "java/lang/String" := (((A38.ext E43).wr W47).wr W51)
        have nq56 : b38 ≠ b43 := Nat.ne_of_lt (Nat.lt_of_lt_of_le (Nat.lt_of_lt_of_le A38.lt (Nat.le_refl _)) (Nat.le_of_eq gq43.symm))
        have f57 : Fld Z h51 b38 "java/lang/String" "value" "[B" .null := (((f42.ext E43).other W47 (Or.inl nq56)).other W51 (Or.inl nq56))
        have f58 : Fld Z h51 b38 "java/lang/String" "coder" "B" (.int 0) := (((f41.ext E43).other W47 (Or.inl nq56)).other W51 (Or.inl nq56))
        have oe59 : Old Z n0 h38 := (Old.ext O0 E38)
        have oe60 : Old Z n0 h43 := (Old.ext oe59 E43)
        have oe61 : Old Z n0 h47 := (Old.wr oe60 W47 g_b43)
        have oe62 : Old Z n0 h51 := (Old.wr oe61 W51 g_b43)
        have g_b38 : n0 ≤ b38 := Nat.le_trans (Nat.le_trans Z0 (Nat.le_refl _)) (Nat.le_of_eq gq38.symm)
        have sz63 : h0.size ≤ h43.size := (Nat.le_trans E38.1 E43.1)
        have sz64 : h0.size ≤ h47.size := (Nat.le_trans sz63 (Nat.le_of_eq W47.size.symm))
        have sz65 : h0.size ≤ h51.size := (Nat.le_trans sz64 (Nat.le_of_eq W51.size.symm))
        obtain ⟨_, _, ⟨T66, L66, kk66, nn66⟩, -, X66, ⟨Lc66, hQ66, lq66, yq66, zq66⟩, st66⟩ := X51.specialBack hx (y := (⟨"java/lang/String", "<init>", "([C)V"⟩ : MethodName)) rfl hown (mvT hZ (w8 hw)) (mvT hZ (w9 hw)) (mvT hZ (w10 hw)) (by decide) (StrChars.Road.backV (W := 1) hZ (words_in str_words hw) (kI := 4) (w5 hw) (cs := ([(nar .char (((((pk).toUInt32 >>> ((8 : Int32) &&& 31).toUInt32).toInt32 &&& (255 : Int32))).toUInt32.toUInt16.toUInt32.toInt32)), (nar .char (((((pk).toUInt32 >>> ((16 : Int32) &&& 31).toUInt32).toInt32 &&& (255 : Int32))).toUInt32.toUInt16.toUInt32.toInt32))] : List Int32)) (bs := ([(nar .char (((((pk).toUInt32 >>> ((8 : Int32) &&& 31).toUInt32).toInt32 &&& (255 : Int32))).toUInt32.toUInt16.toUInt32.toInt32)), (nar .char (((((pk).toUInt32 >>> ((16 : Int32) &&& 31).toUInt32).toInt32 &&& (255 : Int32))).toUInt32.toUInt16.toUInt32.toInt32))] : List Int32).map (fun c => c.toInt8.toInt32)) (n := 2) g_b38 (Nat.le_trans Z0 sz65) f55 f57 f58 f54 (Sta.ext oe62.2 CS) CSn rfl rfl (by decide) (by decide) (chars_cons (and255_chars _) (chars_cons (and255_chars _) chars_nil)) rfl (by decide) (by decide)) (g := (mkF m 73 #[iv pk, iv (pk &&& (3 : Int32)), iv (((((pk).toUInt32 >>> ((8 : Int32) &&& 31).toUInt32).toInt32 &&& (255 : Int32))).toUInt32.toUInt16.toUInt32.toInt32), iv (((((pk).toUInt32 >>> ((16 : Int32) &&& 31).toUInt32).toInt32 &&& (255 : Int32))).toUInt32.toUInt16.toUInt32.toInt32)] [(.ref b43), (.ref b38), (.ref b38)])) rfl (by rw [hml]; rfl) (Steps.refl _) (a := b38) (argsL := [(.ref b43)]) (rest := [(.ref b38)]) (lenOf pd_2 rfl) rfl (by show 2 * 0 + _ ≤ _; exact Nat.le_of_eq rfl) (hb hby d3_73) (fun _ _ => ⟨rfl, e51, (by decide : 2 + 1 ≤ _), (by decide : 6 + 2 ≤ _)⟩)
        dsimp only [Pt.U, Pt.locs, Pt.cells, Pt.slots] at X66 lq66 yq66 zq66 st66 hQ66
        subst lq66 yq66 zq66
        obtain ⟨h66, e66⟩ : ∃ z, T66.heap = z := ⟨_, rfl⟩
        rw [e66] at hQ66
        obtain ⟨rfl, N66q, K66, Es66, Cs66, t66, kb66, gt66, lt66, nt66, Vs66, As66⟩ := hQ66
        have N66 := Fr.app N51 N66q
        have C67 : CHr Z consts_1 s.vm h0 s.vm h66 := CHr.trans C52 (CHr.keep K66 (sfS sf53 sf0) C52.1)
        have sf68 : Safe Z consts_1 s.vm h66 b38 := (Safe.keep K66 (sfS sf53 sf0) C52.1 sf53)
        refine go_tr st66 ?_
        show Go _ _ _ _ (T66.setTop (mkF m 76 #[iv pk, iv (pk &&& (3 : Int32)), iv (((((pk).toUInt32 >>> ((8 : Int32) &&& 31).toUInt32).toInt32 &&& (255 : Int32))).toUInt32.toUInt16.toUInt32.toInt32), iv (((((pk).toUInt32 >>> ((16 : Int32) &&& 31).toUInt32).toInt32 &&& (255 : Int32))).toUInt32.toUInt16.toUInt32.toInt32)] [(.ref b38)]))
        have sS69 : Str Z h66 b38 t66 ([(nar .char (((((pk).toUInt32 >>> ((8 : Int32) &&& 31).toUInt32).toInt32 &&& (255 : Int32))).toUInt32.toUInt16.toUInt32.toInt32)), (nar .char (((((pk).toUInt32 >>> ((16 : Int32) &&& 31).toUInt32).toInt32 &&& (255 : Int32))).toUInt32.toUInt16.toUInt32.toInt32))] : List Int32) := Str.of (n := 2) Es66 Vs66 Cs66 As66 rfl (by decide) (chars_cons (and255_chars _) (chars_cons (and255_chars _) chars_nil))
        have ke70 : Keep h0 h38 [] := (Keep.ext (Keep.refl h0 []) E38)
        have ke71 : Keep h0 h43 [] := (Keep.ext ke70 E43)
        have ke72 : Keep h0 h47 [] := (Keep.wr ke71 W47 (Or.inr (Nat.le_trans E38.1 (Nat.le_of_eq gq43.symm))))
        have ke73 : Keep h0 h51 [] := (Keep.wr ke72 W51 (Or.inr (Nat.le_trans E38.1 (Nat.le_of_eq gq43.symm))))
        have ke74 : Keep h0 h66 [] := (Keep.trans ke73 K66 (allS (Or.inr (Nat.le_of_eq gq38.symm)) all0))
        have sz75 : h0.size ≤ h66.size := (Nat.le_trans sz65 K66.1)
        obtain ⟨fs, hr, hrun, hended, hR⟩ := X66.leaveW hS0 (by rw [e66]; exact (Nat.le_trans hk0 sz75)) (v := some (.ref b38)) (fun h => by rw [Bd.returns] at h; cases h)
        refine ⟨_, _, ?_, hrun, hended, _, _, rfl, ?_, ?_, hR.1, hR.2.1, hR.2.2.1, hR.2.2.2.mono (by decide) (by decide)⟩
        · exact retOut X66 hx Bd.returns rfl (Or.inr (Or.inr (Or.inr (Or.inr ⟨rfl, rfl, rfl⟩)))) (hb hby d3_76) hr
        · show Q_str _ _ _ _ _ _ T66.heap _
          rw [e66]
          exact ⟨(.ref b38), true, rfl, N66, ke74, rfl, (by unfold sentB; rw [and3_3 hc1 hc2 hc6]; decide), (Or.inr (Or.inr ⟨_, _, _, _, rfl, sS69, rfl⟩))⟩
        · show CHr Z consts_1 s.vm s.heap T66.vm T66.heap
          rw [hh, e66]
          exact CHr.trans C67 (CHv.at X66 hZ (hEL hw) C67.1)
def Q_pc (Z : State) (pk : Int32) (h0 : Heap) (n0 : Nat) (vR : Option Value) (h : Heap) (L : List Loc) : Prop := vR = some (.int (pcode pk)) ∧ Fr n0 L ∧ h = h0
theorem ef_pc (m : MethodId) (x0 : Int32) : entryFrame m #[(.int x0)] 1 = mkF m 0 #[.val (.int x0)] [] := by first | (simp [entryFrame, mkF, argsToLocals, Value.category]; done) | rfl
set_option maxRecDepth 65536 in
set_option maxHeartbeats 40000000 in
theorem rm_pc (l : Launch) (Z : State) (a0 : Array Value) (hw : ∀ d ∈ tables_1, d.before a0 Z = true) (ws : List Jvm.Cond) (pk : Int32) (h0 : Heap) (n0 : Nat) (Z0 : n0 ≤ h0.size)  :
    MetFree l (⟨"com/example/credence/credence/LogonSendsNothingPinLaw", "passwordCode", "(I)I"⟩ : MethodName) (head1 (Jvm.Cond.code (⟨"com/example/credence/credence/LogonSendsNothingPinLaw", "passwordCode", "(I)I"⟩ : MethodName) method_4_code 1 (some .int) :: ws) ({ frames := 0, cells := 0, slots := 0, locals := 0 } : Room)) (fun a U => a = #[(.int pk)] ∧ Z.Warmed39 U.vm ∧ U.heap = h0) (fun _ _ _ _ _ => True) (fun _ U o U' => ∃ v L, o = .returned v ∧ Q_pc Z pk h0 n0 v U'.heap L ∧ FrameEnd U o U' L ({ frames := 0, cells := 0, slots := 0, locals := 0 } : Room).cells ({ frames := 0, cells := 0, slots := 0, locals := 0 } : Room).slots) := by
  refine MetFree.of_bodySF (plainFor_of_name pn_com_example_credence_credence_LogonSendsNothingPinLaw) hisR ?_
  intro p e s m args below meth c s₁ Bd hml0 hP hK
  obtain ⟨rfl, hZ, hh⟩ := hP
  have hx := Bd.exec
  have hby := Bd.bytes
  have hml : c.maxLocals = 1 := hml0
  have hown : s.vm.findClass "com/example/credence/credence/LogonSendsNothingPinLaw" = some m.cls := findClass_of_methodNamed Bd.named
  have hnm := (name_of_methodNamed Bd.named Bd.method).1
  have X0 : Stand p l e ({ frames := 0, cells := 0, slots := 0, locals := 0 } : Room) s m #[(.int pk)] below meth c s₁ [] 0 0 := Stand.of_body Bd
  have e0 : s₁.heap = h0 := by rw [← hh, Bd.state]; rfl
  have N0 := Fr.nil n0
  refine go_st (fun t k => castTop (ef_pc m pk) k) ?_
  show Go _ _ _ _ (s₁.setTop (mkF m 0 #[iv pk] []))
  refine go_st (fun t k => XS.iloadN X0.here hx rfl (hb hby d4_0) rfl k) ?_
  show Go _ _ _ _ (s₁.setTop (mkF m 1 #[iv pk] [(.int pk)]))
  refine go_st (fun t k => XS.iconst X0.here hx rfl (hb hby d4_1) k) ?_
  show Go _ _ _ _ (s₁.setTop (mkF m 2 #[iv pk] [(.int 2), (.int pk)]))
  refine go_st (fun t k => XS.iushr X0.here hx rfl (hb hby d4_2) rfl k) ?_
  show Go _ _ _ _ (s₁.setTop (mkF m 3 #[iv pk] [(.int ((pk).toUInt32 >>> ((2 : Int32) &&& 31).toUInt32).toInt32)]))
  refine go_st (fun t k => XS.iconst X0.here hx rfl (hb hby d4_3) k) ?_
  show Go _ _ _ _ (s₁.setTop (mkF m 4 #[iv pk] [(.int 3), (.int ((pk).toUInt32 >>> ((2 : Int32) &&& 31).toUInt32).toInt32)]))
  refine go_st (fun t k => XS.iand X0.here hx rfl (hb hby d4_4) rfl k) ?_
  show Go _ _ _ _ (s₁.setTop (mkF m 5 #[iv pk] [(.int (((pk).toUInt32 >>> ((2 : Int32) &&& 31).toUInt32).toInt32 &&& (3 : Int32)))]))
  refine go_st (fun t k => XS.iloadN X0.here hx rfl (hb hby d4_5) rfl k) ?_
  show Go _ _ _ _ (s₁.setTop (mkF m 6 #[iv pk] [(.int pk), (.int (((pk).toUInt32 >>> ((2 : Int32) &&& 31).toUInt32).toInt32 &&& (3 : Int32)))]))
  refine go_st (fun t k => XS.bipush X0.here hx rfl (hb hby d4_6) k) ?_
  show Go _ _ _ _ (s₁.setTop (mkF m 8 #[iv pk] [(.int 24), (.int pk), (.int (((pk).toUInt32 >>> ((2 : Int32) &&& 31).toUInt32).toInt32 &&& (3 : Int32)))]))
  refine go_st (fun t k => XS.iushr X0.here hx rfl (hb hby d4_8) rfl k) ?_
  show Go _ _ _ _ (s₁.setTop (mkF m 9 #[iv pk] [(.int ((pk).toUInt32 >>> ((24 : Int32) &&& 31).toUInt32).toInt32), (.int (((pk).toUInt32 >>> ((2 : Int32) &&& 31).toUInt32).toInt32 &&& (3 : Int32)))]))
  refine go_st (fun t k => XS.sipush X0.here hx rfl (hb hby d4_9) k) ?_
  show Go _ _ _ _ (s₁.setTop (mkF m 12 #[iv pk] [(.int 255), (.int ((pk).toUInt32 >>> ((24 : Int32) &&& 31).toUInt32).toInt32), (.int (((pk).toUInt32 >>> ((2 : Int32) &&& 31).toUInt32).toInt32 &&& (3 : Int32)))]))
  refine go_st (fun t k => XS.iand X0.here hx rfl (hb hby d4_12) rfl k) ?_
  show Go _ _ _ _ (s₁.setTop (mkF m 13 #[iv pk] [(.int (((pk).toUInt32 >>> ((24 : Int32) &&& 31).toUInt32).toInt32 &&& (255 : Int32))), (.int (((pk).toUInt32 >>> ((2 : Int32) &&& 31).toUInt32).toInt32 &&& (3 : Int32)))]))
  refine go_st (fun t k => XS.bipush X0.here hx rfl (hb hby d4_13) k) ?_
  show Go _ _ _ _ (s₁.setTop (mkF m 15 #[iv pk] [(.int 8), (.int (((pk).toUInt32 >>> ((24 : Int32) &&& 31).toUInt32).toInt32 &&& (255 : Int32))), (.int (((pk).toUInt32 >>> ((2 : Int32) &&& 31).toUInt32).toInt32 &&& (3 : Int32)))]))
  refine go_st (fun t k => XS.ishl X0.here hx rfl (hb hby d4_15) rfl k) ?_
  show Go _ _ _ _ (s₁.setTop (mkF m 16 #[iv pk] [(.int ((((pk).toUInt32 >>> ((24 : Int32) &&& 31).toUInt32).toInt32 &&& (255 : Int32)) <<< ((8 : Int32) &&& 31))), (.int (((pk).toUInt32 >>> ((2 : Int32) &&& 31).toUInt32).toInt32 &&& (3 : Int32)))]))
  refine go_st (fun t k => XS.ior X0.here hx rfl (hb hby d4_16) rfl k) ?_
  show Go _ _ _ _ (s₁.setTop (mkF m 17 #[iv pk] [(.int ((((pk).toUInt32 >>> ((2 : Int32) &&& 31).toUInt32).toInt32 &&& (3 : Int32)) ||| ((((pk).toUInt32 >>> ((24 : Int32) &&& 31).toUInt32).toInt32 &&& (255 : Int32)) <<< ((8 : Int32) &&& 31))))]))
  obtain ⟨fs, hr, hrun, hended, hW, hsame⟩ := X0.leave (v := some (.int ((((pk).toUInt32 >>> ((2 : Int32) &&& 31).toUInt32).toInt32 &&& (3 : Int32)) ||| ((((pk).toUInt32 >>> ((24 : Int32) &&& 31).toUInt32).toInt32 &&& (255 : Int32)) <<< ((8 : Int32) &&& 31))))) (fun h => by rw [Bd.returns] at h; cases h)
  refine ⟨_, _, ?_, hrun, hended, _, _, rfl, ?_, ⟨_, rfl⟩, hW, hsame.mono (by decide) (by decide)⟩
  · exact retI X0 hx Bd.returns (hb hby d4_17) hr
  · show Q_pc _ _ _ _ _ s₁.heap _
    rw [e0]
    exact ⟨rfl, N0, rfl⟩
def Q_sent (Z : State) (pk : Int32) (h0 : Heap) (n0 : Nat) (vR : Option Value) (h : Heap) (L : List Loc) : Prop := ∃ (r : Int32), vR = some (.int r) ∧ Fr n0 L ∧ h = h0 ∧ (r = (if sentB pk = true then 1 else 0))
theorem ef_sent (m : MethodId) (x0 : Int32) : entryFrame m #[(.int x0)] 1 = mkF m 0 #[.val (.int x0)] [] := by first | (simp [entryFrame, mkF, argsToLocals, Value.category]; done) | rfl
set_option maxRecDepth 65536 in
set_option maxHeartbeats 40000000 in
theorem rm_sent (l : Launch) (Z : State) (a0 : Array Value) (hw : ∀ d ∈ tables_1, d.before a0 Z = true) (ws : List Jvm.Cond) (pk : Int32) (h0 : Heap) (n0 : Nat) (Z0 : n0 ≤ h0.size)  :
    MetFree l (⟨"com/example/credence/credence/LogonSendsNothingPinLaw", "sent", "(I)Z"⟩ : MethodName) (head1 (Jvm.Cond.code (⟨"com/example/credence/credence/LogonSendsNothingPinLaw", "sent", "(I)Z"⟩ : MethodName) method_3_code 1 (some .boolean) :: ws) ({ frames := 0, cells := 0, slots := 0, locals := 0 } : Room)) (fun a U => a = #[(.int pk)] ∧ Z.Warmed39 U.vm ∧ U.heap = h0) (fun _ _ _ _ _ => True) (fun _ U o U' => ∃ v L, o = .returned v ∧ Q_sent Z pk h0 n0 v U'.heap L ∧ FrameEnd U o U' L ({ frames := 0, cells := 0, slots := 0, locals := 0 } : Room).cells ({ frames := 0, cells := 0, slots := 0, locals := 0 } : Room).slots) := by
  refine MetFree.of_bodySF (plainFor_of_name pn_com_example_credence_credence_LogonSendsNothingPinLaw) hisR ?_
  intro p e s m args below meth c s₁ Bd hml0 hP hK
  obtain ⟨rfl, hZ, hh⟩ := hP
  have hx := Bd.exec
  have hby := Bd.bytes
  have hml : c.maxLocals = 1 := hml0
  have hown : s.vm.findClass "com/example/credence/credence/LogonSendsNothingPinLaw" = some m.cls := findClass_of_methodNamed Bd.named
  have hnm := (name_of_methodNamed Bd.named Bd.method).1
  have X0 : Stand p l e ({ frames := 0, cells := 0, slots := 0, locals := 0 } : Room) s m #[(.int pk)] below meth c s₁ [] 0 0 := Stand.of_body Bd
  have e0 : s₁.heap = h0 := by rw [← hh, Bd.state]; rfl
  have N0 := Fr.nil n0
  refine go_st (fun t k => castTop (ef_sent m pk) k) ?_
  show Go _ _ _ _ (s₁.setTop (mkF m 0 #[iv pk] []))
  refine go_st (fun t k => XS.iloadN X0.here hx rfl (hb hby d5_0) rfl k) ?_
  show Go _ _ _ _ (s₁.setTop (mkF m 1 #[iv pk] [(.int pk)]))
  refine go_st (fun t k => XS.iconst X0.here hx rfl (hb hby d5_1) k) ?_
  show Go _ _ _ _ (s₁.setTop (mkF m 2 #[iv pk] [(.int 3), (.int pk)]))
  refine go_st (fun t k => XS.iand X0.here hx rfl (hb hby d5_2) rfl k) ?_
  show Go _ _ _ _ (s₁.setTop (mkF m 3 #[iv pk] [(.int (pk &&& (3 : Int32)))]))
  refine go_st (fun t k => XS.iconst X0.here hx rfl (hb hby d5_3) k) ?_
  show Go _ _ _ _ (s₁.setTop (mkF m 4 #[iv pk] [(.int 2), (.int (pk &&& (3 : Int32)))]))
  by_cases hc1 : (pk &&& (3 : Int32)) < (2 : Int32)
  · skip
    refine go_st (fun t k => XS.icmpYes X0.here hx rfl (pc0 := 4) (pc' := 11) rfl (hb hby d5_4) rfl (tlt (hc1 : (pk &&& (3 : Int32)) < (2 : Int32))).1 (by decide) (by decide) k) ?_
    show Go _ _ _ _ (s₁.setTop (mkF m 11 #[iv pk] []))
    refine go_st (fun t k => XS.iconst X0.here hx rfl (hb hby d5_11) k) ?_
    show Go _ _ _ _ (s₁.setTop (mkF m 12 #[iv pk] [(.int 0)]))
    obtain ⟨fs, hr, hrun, hended, hW, hsame⟩ := X0.leave (v := some (.int 0)) (fun h => by rw [Bd.returns] at h; cases h)
    refine ⟨_, _, ?_, hrun, hended, _, _, rfl, ?_, ⟨_, rfl⟩, hW, hsame.mono (by decide) (by decide)⟩
    · exact retN X0 hx (t := .boolean) Bd.returns (by simp) (hb hby d5_12) hr
    · show Q_sent _ _ _ _ _ s₁.heap _
      rw [e0]
      exact ⟨(0 : Int32), rfl, N0, rfl, (by simp [sentB, hc1])⟩
  · skip
    refine go_st (fun t k => XS.icmpNo X0.here hx rfl (hb hby d5_4) rfl (flt (hc1 : ¬ ((pk &&& (3 : Int32)) < (2 : Int32)))).1 k) ?_
    show Go _ _ _ _ (s₁.setTop (mkF m 7 #[iv pk] []))
    refine go_st (fun t k => XS.iconst X0.here hx rfl (hb hby d5_7) k) ?_
    show Go _ _ _ _ (s₁.setTop (mkF m 8 #[iv pk] [(.int 1)]))
    refine go_st (fun t k => XS.goto X0.here hx rfl (pc0 := 8) (pc' := 12) rfl (hb hby d5_8) (by decide) (by decide) k) ?_
    show Go _ _ _ _ (s₁.setTop (mkF m 12 #[iv pk] [(.int 1)]))
    obtain ⟨fs, hr, hrun, hended, hW, hsame⟩ := X0.leave (v := some (.int 1)) (fun h => by rw [Bd.returns] at h; cases h)
    refine ⟨_, _, ?_, hrun, hended, _, _, rfl, ?_, ⟨_, rfl⟩, hW, hsame.mono (by decide) (by decide)⟩
    · exact retN X0 hx (t := .boolean) Bd.returns (by simp) (hb hby d5_12) hr
    · show Q_sent _ _ _ _ _ s₁.heap _
      rw [e0]
      exact ⟨(1 : Int32), rfl, N0, rfl, (by simp [sentB, hc1])⟩
def Q_csent (Z : State) (pk : Int32) (h0 : Heap) (n0 : Nat) (vR : Option Value) (h : Heap) (L : List Loc) : Prop := ∃ (r : Int32), vR = some (.int r) ∧ Fr n0 L ∧ h = h0 ∧ (r = (if csentB pk = true then 1 else 0))
theorem ef_csent (m : MethodId) (x0 : Int32) : entryFrame m #[(.int x0)] 1 = mkF m 0 #[.val (.int x0)] [] := by first | (simp [entryFrame, mkF, argsToLocals, Value.category]; done) | rfl
set_option maxRecDepth 65536 in
set_option maxHeartbeats 40000000 in
theorem rm_csent (l : Launch) (Z : State) (a0 : Array Value) (hw : ∀ d ∈ tables_1, d.before a0 Z = true) (ws : List Jvm.Cond) (pk : Int32) (h0 : Heap) (n0 : Nat) (Z0 : n0 ≤ h0.size)  :
    MetFree l (⟨"com/example/credence/credence/LogonSendsNothingPinLaw", "credSent", "(I)Z"⟩ : MethodName) (head1 (Jvm.Cond.code (⟨"com/example/credence/credence/LogonSendsNothingPinLaw", "credSent", "(I)Z"⟩ : MethodName) method_6_code 1 (some .boolean) :: ws) ({ frames := 1, cells := 0, slots := 0, locals := 12 } : Room)) (fun a U => a = #[(.int pk)] ∧ Z.Warmed39 U.vm ∧ U.heap = h0) (fun _ _ _ _ _ => True) (fun _ U o U' => ∃ v L, o = .returned v ∧ Q_csent Z pk h0 n0 v U'.heap L ∧ FrameEnd U o U' L ({ frames := 1, cells := 0, slots := 0, locals := 12 } : Room).cells ({ frames := 1, cells := 0, slots := 0, locals := 12 } : Room).slots) := by
  refine MetFree.of_bodySF (plainFor_of_name pn_com_example_credence_credence_LogonSendsNothingPinLaw) hisR ?_
  intro p e s m args below meth c s₁ Bd hml0 hP hK
  obtain ⟨rfl, hZ, hh⟩ := hP
  have hx := Bd.exec
  have hby := Bd.bytes
  have hml : c.maxLocals = 1 := hml0
  have hown : s.vm.findClass "com/example/credence/credence/LogonSendsNothingPinLaw" = some m.cls := findClass_of_methodNamed Bd.named
  have hnm := (name_of_methodNamed Bd.named Bd.method).1
  have X0 : Stand p l e ({ frames := 1, cells := 0, slots := 0, locals := 12 } : Room) s m #[(.int pk)] below meth c s₁ [] 0 0 := Stand.of_body Bd
  have e0 : s₁.heap = h0 := by rw [← hh, Bd.state]; rfl
  have N0 := Fr.nil n0
  refine go_st (fun t k => castTop (ef_csent m pk) k) ?_
  show Go _ _ _ _ (s₁.setTop (mkF m 0 #[iv pk] []))
  refine go_st (fun t k => XS.iloadN X0.here hx rfl (hb hby d6_0) rfl k) ?_
  show Go _ _ _ _ (s₁.setTop (mkF m 1 #[iv pk] [(.int pk)]))
  refine go_st (fun t k => XS.bipush X0.here hx rfl (hb hby d6_1) k) ?_
  show Go _ _ _ _ (s₁.setTop (mkF m 3 #[iv pk] [(.int 16), (.int pk)]))
  refine go_st (fun t k => XS.iand X0.here hx rfl (hb hby d6_3) rfl k) ?_
  show Go _ _ _ _ (s₁.setTop (mkF m 4 #[iv pk] [(.int (pk &&& (16 : Int32)))]))
  by_cases hc1 : (pk &&& (16 : Int32)) = (0 : Int32)
  · skip
    refine go_st (fun t k => XS.ifYes X0.here hx rfl (pc0 := 4) (pc' := 9) rfl (hb hby d6_4) rfl ((if0 _ _).trans (teq (hc1 : (pk &&& (16 : Int32)) = (0 : Int32))).1) (by decide) (by decide) k) ?_
    show Go _ _ _ _ (s₁.setTop (mkF m 9 #[iv pk] []))
    refine go_st (fun t k => XS.iloadN X0.here hx rfl (hb hby d6_9) rfl k) ?_
    show Go _ _ _ _ (s₁.setTop (mkF m 10 #[iv pk] [(.int pk)]))
    obtain ⟨_, _, ⟨T2, L2, kk2, nn2⟩, -, X2, ⟨Lc2, hQ2, lq2, yq2, zq2⟩, st2⟩ := Jvm.LawKit.callS X0 hx (y := (⟨"com/example/credence/credence/LogonSendsNothingPinLaw", "sent", "(I)Z"⟩ : MethodName)) hown (mvT hZ (w78 hw)) (mvT hZ (w79 hw)) (mvT hZ (w2 hw)) (mvT hZ (w80 hw)) (by decide) (backOf (W := 0) (rm_sent l Z a0 hw [] pk h0 n0 (Nat.le_trans Z0 (Nat.le_refl _)) ) hZ (w80 hw) (w2 hw) (by decide) (by decide)) (g := (mkF m 10 #[iv pk] [(.int pk)])) rfl (by rw [hml]; rfl) (argsL := [(.int pk)]) (rest := []) (lenOf pd_3 rfl) rfl (by show 2 * 0 + _ ≤ _; exact Nat.le_of_eq rfl) (hb hby d6_10) (fun _ _ => ⟨rfl, e0, (by decide : 0 + 0 ≤ _), (by decide : 0 + 0 ≤ _)⟩)
    dsimp only [Pt.U, Pt.locs, Pt.cells, Pt.slots] at X2 lq2 yq2 zq2 st2 hQ2
    subst lq2 yq2 zq2
    obtain ⟨h2, e2⟩ : ∃ z, T2.heap = z := ⟨_, rfl⟩
    rw [e2] at hQ2
    obtain ⟨r_2, rfl, N2q, he2, hr_2⟩ := hQ2
    have N2 := Fr.app N0 N2q
    rw [he2] at e2
    refine go_st st2 ?_
    show Go _ _ _ _ (T2.setTop (mkF m 13 #[iv pk] [(.int r_2)]))
    rcases Bool.eq_false_or_eq_true (sentB pk) with hb3 | hb3
    · skip
      rw [hb3, if_pos rfl] at hr_2
      subst hr_2
      show Go _ _ _ _ (T2.setTop (mkF m 13 #[iv pk] [(.int 1)]))
      refine go_st (fun t k => XS.ifYes X2.here hx rfl (pc0 := 13) (pc' := 26) rfl (hb hby d6_13) rfl ((if0 _ _).trans (feq ((by decide) : ¬ ((1 : Int32) = (0 : Int32)))).2) (by decide) (by decide) k) ?_
      show Go _ _ _ _ (T2.setTop (mkF m 26 #[iv pk] []))
      refine go_st (fun t k => XS.iconst X2.here hx rfl (hb hby d6_26) k) ?_
      show Go _ _ _ _ (T2.setTop (mkF m 27 #[iv pk] [(.int 1)]))
      refine go_st (fun t k => XS.goto X2.here hx rfl (pc0 := 27) (pc' := 31) rfl (hb hby d6_27) (by decide) (by decide) k) ?_
      show Go _ _ _ _ (T2.setTop (mkF m 31 #[iv pk] [(.int 1)]))
      obtain ⟨fs, hr, hrun, hended, hW, hsame⟩ := X2.leave (v := some (.int 1)) (fun h => by rw [Bd.returns] at h; cases h)
      refine ⟨_, _, ?_, hrun, hended, _, _, rfl, ?_, ⟨_, rfl⟩, hW, hsame.mono (by decide) (by decide)⟩
      · exact retN X2 hx (t := .boolean) Bd.returns (by simp) (hb hby d6_31) hr
      · show Q_csent _ _ _ _ _ T2.heap _
        rw [e2]
        exact ⟨(1 : Int32), rfl, N2, rfl, (by simp [csentB, hc1, hb3])⟩
    · skip
      rw [hb3, if_neg (by decide)] at hr_2
      subst hr_2
      show Go _ _ _ _ (T2.setTop (mkF m 13 #[iv pk] [(.int 0)]))
      refine go_st (fun t k => XS.ifNo X2.here hx rfl (hb hby d6_13) rfl ((if0 _ _).trans (teq ((by decide) : (0 : Int32) = (0 : Int32))).2) k) ?_
      show Go _ _ _ _ (T2.setTop (mkF m 16 #[iv pk] []))
      refine go_st (fun t k => XS.iloadN X2.here hx rfl (hb hby d6_16) rfl k) ?_
      show Go _ _ _ _ (T2.setTop (mkF m 17 #[iv pk] [(.int pk)]))
      obtain ⟨_, _, ⟨T4, L4, kk4, nn4⟩, -, X4, ⟨Lc4, hQ4, lq4, yq4, zq4⟩, st4⟩ := Jvm.LawKit.callS X2 hx (y := (⟨"com/example/credence/credence/LogonSendsNothingPinLaw", "passwordCode", "(I)I"⟩ : MethodName)) hown (mvT hZ (w40 hw)) (mvT hZ (w41 hw)) (mvT hZ (w2 hw)) (mvT hZ (w42 hw)) (by decide) (backOf (W := 0) (rm_pc l Z a0 hw [] pk h0 n0 (Nat.le_trans Z0 (Nat.le_refl _)) ) hZ (w42 hw) (w2 hw) (by decide) (by decide)) (g := (mkF m 17 #[iv pk] [(.int pk)])) rfl (by rw [hml]; rfl) (argsL := [(.int pk)]) (rest := []) (lenOf pd_4 rfl) rfl (by show 2 * 0 + _ ≤ _; exact Nat.le_of_eq rfl) (hb hby d6_17) (fun _ _ => ⟨rfl, e2, (by decide : 0 + 0 ≤ _), (by decide : 0 + 0 ≤ _)⟩)
      dsimp only [Pt.U, Pt.locs, Pt.cells, Pt.slots] at X4 lq4 yq4 zq4 st4 hQ4
      subst lq4 yq4 zq4
      obtain ⟨h4, e4⟩ : ∃ z, T4.heap = z := ⟨_, rfl⟩
      rw [e4] at hQ4
      obtain ⟨rfl, N4q, he4⟩ := hQ4
      have N4 := Fr.app N2 N4q
      rw [he4] at e4
      refine go_st st4 ?_
      show Go _ _ _ _ (T4.setTop (mkF m 20 #[iv pk] [(.int (pcode pk))]))
      obtain ⟨_, _, ⟨T5, L5, kk5, nn5⟩, -, X5, ⟨Lc5, hQ5, lq5, yq5, zq5⟩, st5⟩ := Jvm.LawKit.callS X4 hx (y := (⟨"com/example/credence/credence/LogonSendsNothingPinLaw", "sent", "(I)Z"⟩ : MethodName)) hown (mvT hZ (w78 hw)) (mvT hZ (w79 hw)) (mvT hZ (w2 hw)) (mvT hZ (w80 hw)) (by decide) (backOf (W := 0) (rm_sent l Z a0 hw [] (pcode pk) h0 n0 (Nat.le_trans Z0 (Nat.le_refl _)) ) hZ (w80 hw) (w2 hw) (by decide) (by decide)) (g := (mkF m 20 #[iv pk] [(.int (pcode pk))])) rfl (by rw [hml]; rfl) (argsL := [(.int (pcode pk))]) (rest := []) (lenOf pd_3 rfl) rfl (by show 2 * 0 + _ ≤ _; exact Nat.le_of_eq rfl) (hb hby d6_20) (fun _ _ => ⟨rfl, e4, (by decide : 0 + 0 ≤ _), (by decide : 0 + 0 ≤ _)⟩)
      dsimp only [Pt.U, Pt.locs, Pt.cells, Pt.slots] at X5 lq5 yq5 zq5 st5 hQ5
      subst lq5 yq5 zq5
      obtain ⟨h5, e5⟩ : ∃ z, T5.heap = z := ⟨_, rfl⟩
      rw [e5] at hQ5
      obtain ⟨r_5, rfl, N5q, he5, hr_5⟩ := hQ5
      have N5 := Fr.app N4 N5q
      rw [he5] at e5
      refine go_st st5 ?_
      show Go _ _ _ _ (T5.setTop (mkF m 23 #[iv pk] [(.int r_5)]))
      rcases Bool.eq_false_or_eq_true (sentB (pcode pk)) with hb6 | hb6
      · skip
        rw [hb6, if_pos rfl] at hr_5
        subst hr_5
        show Go _ _ _ _ (T5.setTop (mkF m 23 #[iv pk] [(.int 1)]))
        refine go_st (fun t k => XS.ifNo X5.here hx rfl (hb hby d6_23) rfl ((if0 _ _).trans (feq ((by decide) : ¬ ((1 : Int32) = (0 : Int32)))).1) k) ?_
        show Go _ _ _ _ (T5.setTop (mkF m 26 #[iv pk] []))
        refine go_st (fun t k => XS.iconst X5.here hx rfl (hb hby d6_26) k) ?_
        show Go _ _ _ _ (T5.setTop (mkF m 27 #[iv pk] [(.int 1)]))
        refine go_st (fun t k => XS.goto X5.here hx rfl (pc0 := 27) (pc' := 31) rfl (hb hby d6_27) (by decide) (by decide) k) ?_
        show Go _ _ _ _ (T5.setTop (mkF m 31 #[iv pk] [(.int 1)]))
        obtain ⟨fs, hr, hrun, hended, hW, hsame⟩ := X5.leave (v := some (.int 1)) (fun h => by rw [Bd.returns] at h; cases h)
        refine ⟨_, _, ?_, hrun, hended, _, _, rfl, ?_, ⟨_, rfl⟩, hW, hsame.mono (by decide) (by decide)⟩
        · exact retN X5 hx (t := .boolean) Bd.returns (by simp) (hb hby d6_31) hr
        · show Q_csent _ _ _ _ _ T5.heap _
          rw [e5]
          exact ⟨(1 : Int32), rfl, N5, rfl, (by simp [csentB, hc1, hb3, hb6])⟩
      · skip
        rw [hb6, if_neg (by decide)] at hr_5
        subst hr_5
        show Go _ _ _ _ (T5.setTop (mkF m 23 #[iv pk] [(.int 0)]))
        refine go_st (fun t k => XS.ifYes X5.here hx rfl (pc0 := 23) (pc' := 30) rfl (hb hby d6_23) rfl ((if0 _ _).trans (teq ((by decide) : (0 : Int32) = (0 : Int32))).1) (by decide) (by decide) k) ?_
        show Go _ _ _ _ (T5.setTop (mkF m 30 #[iv pk] []))
        refine go_st (fun t k => XS.iconst X5.here hx rfl (hb hby d6_30) k) ?_
        show Go _ _ _ _ (T5.setTop (mkF m 31 #[iv pk] [(.int 0)]))
        obtain ⟨fs, hr, hrun, hended, hW, hsame⟩ := X5.leave (v := some (.int 0)) (fun h => by rw [Bd.returns] at h; cases h)
        refine ⟨_, _, ?_, hrun, hended, _, _, rfl, ?_, ⟨_, rfl⟩, hW, hsame.mono (by decide) (by decide)⟩
        · exact retN X5 hx (t := .boolean) Bd.returns (by simp) (hb hby d6_31) hr
        · show Q_csent _ _ _ _ _ T5.heap _
          rw [e5]
          exact ⟨(0 : Int32), rfl, N5, rfl, (by simp [csentB, hc1, hb3, hb6])⟩
  · skip
    refine go_st (fun t k => XS.ifNo X0.here hx rfl (hb hby d6_4) rfl ((if0 _ _).trans (feq (hc1 : ¬ ((pk &&& (16 : Int32)) = (0 : Int32)))).1) k) ?_
    show Go _ _ _ _ (s₁.setTop (mkF m 7 #[iv pk] []))
    refine go_st (fun t k => XS.iconst X0.here hx rfl (hb hby d6_7) k) ?_
    show Go _ _ _ _ (s₁.setTop (mkF m 8 #[iv pk] [(.int 0)]))
    obtain ⟨fs, hr, hrun, hended, hW, hsame⟩ := X0.leave (v := some (.int 0)) (fun h => by rw [Bd.returns] at h; cases h)
    refine ⟨_, _, ?_, hrun, hended, _, _, rfl, ?_, ⟨_, rfl⟩, hW, hsame.mono (by decide) (by decide)⟩
    · exact retN X0 hx (t := .boolean) Bd.returns (by simp) (hb hby d6_8) hr
    · show Q_csent _ _ _ _ _ s₁.heap _
      rw [e0]
      exact ⟨(0 : Int32), rfl, N0, rfl, (by simp [csentB, hc1])⟩
def Q_mkcred (Z : State) (pk : Int32) (G1 : Int32) (h0 : Heap) (n0 : Nat) (vR : Option Value) (h : Heap) (L : List Loc) : Prop := ∃ (v : Value) (ne : Bool), vR = some v ∧ Fr n0 L ∧ Keep h0 h [] ∧ (v.isRef = true) ∧ (ne = csentB pk) ∧ (OCred Z h v ne)
theorem ef_mkcred (m : MethodId) (x0 : Int32) : entryFrame m #[(.int x0)] 1 = mkF m 0 #[.val (.int x0)] [] := by first | (simp [entryFrame, mkF, argsToLocals, Value.category]; done) | rfl
set_option maxRecDepth 65536 in
set_option maxHeartbeats 40000000 in
theorem rm_mkcred (l : Launch) (Z : State) (a0 : Array Value) (hw : ∀ d ∈ tables_1, d.before a0 Z = true) (ws : List Jvm.Cond) (pk : Int32) (G1 : Int32) (h0 : Heap) (n0 : Nat) (Z0 : n0 ≤ h0.size) (CS : Sta Z Z.heap "java/lang/String" "COMPACT_STRINGS" "Z" (.int G1)) (CSn : ¬ (G1 = (0 : Int32))) (O0 : Old Z n0 h0) :
    MetFree l (⟨"com/example/credence/credence/LogonSendsNothingPinLaw", "cred", "(I)Lcom/example/credence/credence/Credentials;"⟩ : MethodName) (head1 (Jvm.Cond.code (⟨"com/example/credence/credence/LogonSendsNothingPinLaw", "cred", "(I)Lcom/example/credence/credence/Credentials;"⟩ : MethodName) method_5_code 1 (some (.object "com/example/credence/credence/Credentials")) :: ws) ({ frames := 5, cells := 7, slots := 18, locals := 84 } : Room)) (fun a U => a = #[(.int pk)] ∧ Z.Warmed39 U.vm ∧ U.heap = h0 ∧ CHv Z consts_1 U.vm h0) (fun _ _ _ _ _ => True) (fun _ U o U' => ∃ v L, o = .returned v ∧ Q_mkcred Z pk G1 h0 n0 v U'.heap L ∧ CHr Z consts_1 U.vm U.heap U'.vm U'.heap ∧ ReturnedEndW U o U' L ({ frames := 5, cells := 7, slots := 18, locals := 84 } : Room).cells ({ frames := 5, cells := 7, slots := 18, locals := 84 } : Room).slots) := by
  refine MetFree.of_bodySF (plainFor_of_name pn_com_example_credence_credence_LogonSendsNothingPinLaw) hisR ?_
  intro p e s m args below meth c s₁ Bd hml0 hP hK
  obtain ⟨rfl, hZs, hh, H0⟩ := hP
  have hx := Bd.exec
  have hby := Bd.bytes
  have hml : c.maxLocals = 1 := hml0
  have hZ : Z.Warmed39 (s.setVm s.vm).vm := hZs
  have hown : (s.setVm s.vm).vm.findClass "com/example/credence/credence/LogonSendsNothingPinLaw" = some m.cls := findClass_of_methodNamed Bd.named
  have hnm := (name_of_methodNamed Bd.named Bd.method).1
  have X0 : Stand p l e ({ frames := 5, cells := 7, slots := 18, locals := 84 } : Room) (s.setVm s.vm) m #[(.int pk)] below meth c s₁ [] 0 0 := Stand.of_body Bd
  have e0 : s₁.heap = h0 := by rw [← hh, Bd.state]; rfl
  have N0 := Fr.nil n0
  have hS0 : s.Since s.vm s.heap.size := (State.WarmedH.refl s).since _
  have hk0 : s.heap.size ≤ h0.size := Nat.le_of_eq (congrArg Array.size hh)
  have C0 : CHr Z consts_1 s.vm h0 s.vm h0 := CHr.refl H0
  refine go_st (fun t k => castTop (ef_mkcred m pk) k) ?_
  show Go _ _ _ _ (s₁.setTop (mkF m 0 #[iv pk] []))
  refine go_st (fun t k => XS.iloadN X0.here hx rfl (hb hby d7_0) rfl k) ?_
  show Go _ _ _ _ (s₁.setTop (mkF m 1 #[iv pk] [(.int pk)]))
  refine go_st (fun t k => XS.bipush X0.here hx rfl (hb hby d7_1) k) ?_
  show Go _ _ _ _ (s₁.setTop (mkF m 3 #[iv pk] [(.int 16), (.int pk)]))
  refine go_st (fun t k => XS.iand X0.here hx rfl (hb hby d7_3) rfl k) ?_
  show Go _ _ _ _ (s₁.setTop (mkF m 4 #[iv pk] [(.int (pk &&& (16 : Int32)))]))
  by_cases hc1 : (pk &&& (16 : Int32)) = (0 : Int32)
  · skip
    refine go_st (fun t k => XS.ifYes X0.here hx rfl (pc0 := 4) (pc' := 9) rfl (hb hby d7_4) rfl ((if0 _ _).trans (teq (hc1 : (pk &&& (16 : Int32)) = (0 : Int32))).1) (by decide) (by decide) k) ?_
    show Go _ _ _ _ (s₁.setTop (mkF m 9 #[iv pk] []))
    obtain ⟨T2, h2, X2, e2, E2, A2, D2, -, st2⟩ := newO X0 hx hZ hown (w37 hw) (w38 hw) (w39 hw) e0 (g := (mkF m 9 #[iv pk] [])) rfl (hb hby d7_9) (by decide) (by decide)
    obtain ⟨b2, gq2⟩ : ∃ z, z = h0.size := ⟨_, rfl⟩
    rw [← gq2] at A2 D2 st2
    have C3 : CHr Z consts_1 s.vm h0 s.vm h2 := CHr.trans C0 (CHr.ext E2 C0.1)
    have f4 : Fld Z h2 b2 "com/example/credence/credence/Credentials" "username" "Ljava/lang/String;" .null := D2 (Or.inr (w53 hw)) (ty := (.object "java/lang/String")) (by decide)
    have f5 : Fld Z h2 b2 "com/example/credence/credence/Credentials" "password" "Ljava/lang/String;" .null := D2 (Or.inr (w55 hw)) (ty := (.object "java/lang/String")) (by decide)
    refine go_st (fun t k => st2 t k) ?_
    show Go _ _ _ _ (T2.setTop (mkF m 12 #[iv pk] [(.ref b2)]))
    refine go_st (fun t k => XS.dup X2.here hx rfl (hb hby d7_12) rfl rfl k) ?_
    show Go _ _ _ _ (T2.setTop (mkF m 13 #[iv pk] [(.ref b2), (.ref b2)]))
    refine go_st (fun t k => XS.iloadN X2.here hx rfl (hb hby d7_13) rfl k) ?_
    show Go _ _ _ _ (T2.setTop (mkF m 14 #[iv pk] [(.int pk), (.ref b2), (.ref b2)]))
    have oe6 : Old Z n0 h2 := (Old.ext O0 E2)
    obtain ⟨_, _, ⟨T7, L7, kk7, nn7⟩, -, X7, hs27, hg7, ⟨Lc7, hQ7, lq7, yq7, zq7, hC7⟩, st7⟩ := callSS X2 hx (y := (⟨"com/example/credence/credence/LogonSendsNothingPinLaw", "str", "(I)Ljava/lang/String;"⟩ : MethodName)) hown (mvT hZ (w0 hw)) (mvT hZ (w1 hw)) (mvT hZ (w2 hw)) (mvT hZ (w3 hw)) (by decide) (backOfSH (vm0 := s.vm) (W := 2) (rm_str l Z a0 hw [] pk G1 h2 n0 (Nat.le_trans Z0 E2.1) CS CSn oe6) hZ (w3 hw) (w2 hw) (by decide) (by decide) (hEL hw) C3.1) (g := (mkF m 14 #[iv pk] [(.int pk), (.ref b2), (.ref b2)])) rfl (by rw [hml]; rfl) (argsL := [(.int pk)]) (rest := [(.ref b2), (.ref b2)]) (lenOf pd_5 rfl) rfl (by show 2 * 0 + _ ≤ _; exact Nat.le_of_eq rfl) (hb hby d7_14) (fun _ _ => ⟨rfl, e2, (by decide : 1 + 3 ≤ _), (by decide : 2 + 8 ≤ _)⟩)
    dsimp only [Pt.U, Pt.locs, Pt.cells, Pt.slots] at X7 hs27 hg7 lq7 yq7 zq7 st7 hQ7 hC7
    subst lq7 yq7 zq7
    rw [e2] at hg7
    obtain ⟨X7, hS7, hZ7, hown7⟩ := rebS (vm0 := s.vm) hS0 (Nat.le_trans hk0 E2.1) X7 hs27 hg7 hZ hown
    obtain ⟨h7, e7⟩ : ∃ z, T7.heap = z := ⟨_, rfl⟩
    rw [e7] at hQ7 hg7 hC7 hS7
    obtain ⟨v_7, ne_7, rfl, N7q, K7, hv_7, hne_7, p7_2⟩ := hQ7
    have N7 := Fr.app N0 N7q
    have C8 : CHr Z consts_1 s.vm h0 T7.vm h7 := CHr.trans C3 hC7
    refine go_tr st7 ?_
    show Go _ _ _ _ (T7.setTop (mkF m 17 #[iv pk] [v_7, (.ref b2), (.ref b2)]))
    refine go_st (fun t k => XS.iloadN X7.here hx rfl (hb hby d7_17) rfl k) ?_
    show Go _ _ _ _ (T7.setTop (mkF m 18 #[iv pk] [(.int pk), v_7, (.ref b2), (.ref b2)]))
    have sz9 : h0.size ≤ h7.size := (Nat.le_trans E2.1 K7.1)
    obtain ⟨_, _, ⟨T10, L10, kk10, nn10⟩, -, X10, ⟨Lc10, hQ10, lq10, yq10, zq10⟩, st10⟩ := Jvm.LawKit.callS X7 hx (y := (⟨"com/example/credence/credence/LogonSendsNothingPinLaw", "passwordCode", "(I)I"⟩ : MethodName)) hown7 (mvT hZ7 (w40 hw)) (mvT hZ7 (w41 hw)) (mvT hZ7 (w2 hw)) (mvT hZ7 (w42 hw)) (by decide) (backOf (W := 3) (rm_pc l Z a0 hw [] pk h7 n0 (Nat.le_trans Z0 sz9) ) hZ7 (w42 hw) (w2 hw) (by decide) (by decide)) (g := (mkF m 18 #[iv pk] [(.int pk), v_7, (.ref b2), (.ref b2)])) rfl (by rw [hml]; rfl) (argsL := [(.int pk)]) (rest := [v_7, (.ref b2), (.ref b2)]) (lenOf pd_4 rfl) rfl (by show 2 * 0 + (v_7.category + (1 + (1 + 0))) ≤ _; rw [ref_cat hv_7]; exact Nat.le_of_eq rfl) (hb hby d7_18) (fun _ _ => ⟨rfl, e7, (by decide : 4 + 0 ≤ _), (by decide : 10 + 0 ≤ _)⟩)
    dsimp only [Pt.U, Pt.locs, Pt.cells, Pt.slots] at X10 lq10 yq10 zq10 st10 hQ10
    subst lq10 yq10 zq10
    obtain ⟨h10, e10⟩ : ∃ z, T10.heap = z := ⟨_, rfl⟩
    rw [e10] at hQ10
    obtain ⟨rfl, N10q, he10⟩ := hQ10
    have N10 := Fr.app N7 N10q
    rw [he10] at e10
    refine go_st st10 ?_
    show Go _ _ _ _ (T10.setTop (mkF m 21 #[iv pk] [(.int (pcode pk)), v_7, (.ref b2), (.ref b2)]))
    have oe11 : Old Z n0 h7 := (Old.keep oe6 K7 all0)
    obtain ⟨_, _, ⟨T12, L12, kk12, nn12⟩, -, X12, hs212, hg12, ⟨Lc12, hQ12, lq12, yq12, zq12, hC12⟩, st12⟩ := callSS X10 hx (y := (⟨"com/example/credence/credence/LogonSendsNothingPinLaw", "str", "(I)Ljava/lang/String;"⟩ : MethodName)) hown7 (mvT hZ7 (w0 hw)) (mvT hZ7 (w1 hw)) (mvT hZ7 (w2 hw)) (mvT hZ7 (w3 hw)) (by decide) (backOfSH (vm0 := T7.vm) (W := 3) (rm_str l Z a0 hw [] (pcode pk) G1 h7 n0 (Nat.le_trans Z0 sz9) CS CSn oe11) hZ7 (w3 hw) (w2 hw) (by decide) (by decide) (hEL hw) C8.1) (g := (mkF m 21 #[iv pk] [(.int (pcode pk)), v_7, (.ref b2), (.ref b2)])) rfl (by rw [hml]; rfl) (argsL := [(.int (pcode pk))]) (rest := [v_7, (.ref b2), (.ref b2)]) (lenOf pd_5 rfl) rfl (by show 2 * 0 + (v_7.category + (1 + (1 + 0))) ≤ _; rw [ref_cat hv_7]; exact Nat.le_of_eq rfl) (hb hby d7_21) (fun _ _ => ⟨rfl, e10, (by decide : 4 + 3 ≤ _), (by decide : 10 + 8 ≤ _)⟩)
    dsimp only [Pt.U, Pt.locs, Pt.cells, Pt.slots] at X12 hs212 hg12 lq12 yq12 zq12 st12 hQ12 hC12
    subst lq12 yq12 zq12
    rw [e10] at hg12
    obtain ⟨X12, hS12, hZ12, hown12⟩ := rebS (vm0 := T7.vm) hS7 (Nat.le_trans (Nat.le_refl _) (Nat.le_refl _)) X12 hs212 hg12 hZ7 hown7
    obtain ⟨h12, e12⟩ : ∃ z, T12.heap = z := ⟨_, rfl⟩
    rw [e12] at hQ12 hg12 hC12 hS12
    obtain ⟨v_12, ne_12, rfl, N12q, K12, hv_12, hne_12, p12_2⟩ := hQ12
    have N12 := Fr.app N10 N12q
    have C13 : CHr Z consts_1 s.vm h0 T12.vm h12 := CHr.trans C8 hC12
    refine go_tr st12 ?_
    show Go _ _ _ _ (T12.setTop (mkF m 24 #[iv pk] [v_12, v_7, (.ref b2), (.ref b2)]))
    have f14 : Exa Z h12 b2 "com/example/credence/credence/Credentials" := ((A2.keep K7).keep K12)
    have f15 : Fld Z h12 b2 "com/example/credence/credence/Credentials" "username" "Ljava/lang/String;" .null := ((f4.keep K7 nin0).keep K12 nin0)
    have f16 : Fld Z h12 b2 "com/example/credence/credence/Credentials" "password" "Ljava/lang/String;" .null := ((f5.keep K7 nin0).keep K12 nin0)
    have g_b2 : n0 ≤ b2 := Nat.le_trans (Nat.le_trans Z0 (Nat.le_refl _)) (Nat.le_of_eq gq2.symm)
    have sz17 : h0.size ≤ h12.size := (Nat.le_trans sz9 K12.1)
    obtain ⟨_, _, ⟨T18, L18, kk18, nn18⟩, -, X18, ⟨Lc18, hQ18, lq18, yq18, zq18⟩, st18⟩ := X12.specialBack hx (y := (⟨"com/example/credence/credence/Credentials", "<init>", "(Ljava/lang/String;Ljava/lang/String;)V"⟩ : MethodName)) rfl hown12 (mvT hZ12 (w43 hw)) (mvT hZ12 (w44 hw)) (mvT hZ12 (w45 hw)) (by decide) (backOf (W := 1) (rm_cred l Z a0 hw [] b2 v_7 v_12 h12 n0 (Nat.le_trans Z0 sz17) f14 f15 f16 g_b2 hv_7 hv_12) hZ12 (w45 hw) (w39 hw) (by decide) (by decide)) (g := (mkF m 24 #[iv pk] [v_12, v_7, (.ref b2), (.ref b2)])) rfl (by rw [hml]; rfl) (Steps.refl _) (a := b2) (argsL := [v_7, v_12]) (rest := [(.ref b2)]) (lenOf pd_6 rfl) rfl (by show 2 * 0 + _ ≤ _; exact Nat.le_of_eq rfl) (hb hby d7_24) (fun _ _ => ⟨rfl, e12, (by decide : 7 + 0 ≤ _), (by decide : 18 + 0 ≤ _)⟩)
    dsimp only [Pt.U, Pt.locs, Pt.cells, Pt.slots] at X18 lq18 yq18 zq18 st18 hQ18
    subst lq18 yq18 zq18
    obtain ⟨h18, e18⟩ : ∃ z, T18.heap = z := ⟨_, rfl⟩
    rw [e18] at hQ18
    obtain ⟨rfl, N18q, K18, p18_0, p18_1, p18_2⟩ := hQ18
    have N18 := Fr.app N12 N18q
    have C19 : CHr Z consts_1 s.vm h0 T12.vm h18 := CHr.trans C13 (CHr.keep K18 (sfS (Safe.exa hZ12.alike f14 (by decide) (by decide)) sf0) C13.1)
    refine go_tr st18 ?_
    show Go _ _ _ _ (T18.setTop (mkF m 27 #[iv pk] [(.ref b2)]))
    have xe20 : Ext h7 h12 := (ext_keep (ext_rfl h7) K12 all0)
    have f21 : OStr Z h18 v_7 ne_7 := ((p7_2.ext xe20).keepC K18 f14 (w38 hw) (by decide))
    have f22 : OStr Z h18 v_12 ne_12 := (p12_2.keepC K18 f14 (w38 hw) (by decide))
    have ke23 : Keep h0 h2 [] := (Keep.ext (Keep.refl h0 []) E2)
    have ke24 : Keep h0 h7 [] := (Keep.trans ke23 K7 all0)
    have ke25 : Keep h0 h12 [] := (Keep.trans ke24 K12 all0)
    have ke26 : Keep h0 h18 [] := (Keep.trans ke25 K18 (allS (Or.inr (Nat.le_of_eq gq2.symm)) all0))
    obtain ⟨fs, hr, hrun, hended, hR⟩ := X18.leaveW hS12 (by rw [e18]; exact (Nat.le_trans (Nat.le_refl _) K18.1)) (v := some (.ref b2)) (fun h => by rw [Bd.returns] at h; cases h)
    refine ⟨_, _, ?_, hrun, hended, _, _, rfl, ?_, ?_, hR.1, hR.2.1, hR.2.2.1, hR.2.2.2.mono (by decide) (by decide)⟩
    · exact retOut X18 hx Bd.returns rfl (Or.inr (Or.inr (Or.inr (Or.inr ⟨rfl, rfl, rfl⟩)))) (hb hby d7_27) hr
    · show Q_mkcred _ _ _ _ _ _ T18.heap _
      rw [e18]
      exact ⟨(.ref b2), (ne_7 || ne_12), rfl, N18, ke26, rfl, (by rw [hne_7, hne_12, csentB, if_pos hc1]), (Or.inr ⟨_, _, _, _, _, rfl, p18_0, p18_1, p18_2, f21, f22, rfl⟩)⟩
    · show CHr Z consts_1 s.vm s.heap T18.vm T18.heap
      rw [hh, e18]
      exact CHr.trans C19 (CHv.at X18 hZ12 (hEL hw) C19.1)
  · skip
    refine go_st (fun t k => XS.ifNo X0.here hx rfl (hb hby d7_4) rfl ((if0 _ _).trans (feq (hc1 : ¬ ((pk &&& (16 : Int32)) = (0 : Int32)))).1) k) ?_
    show Go _ _ _ _ (s₁.setTop (mkF m 7 #[iv pk] []))
    refine go_st (fun t k => XS.aconstNull X0.here hx rfl (hb hby d7_7) k) ?_
    show Go _ _ _ _ (s₁.setTop (mkF m 8 #[iv pk] [.null]))
    obtain ⟨fs, hr, hrun, hended, hR⟩ := X0.leaveW hS0 (by rw [e0]; exact (Nat.le_trans hk0 (Nat.le_refl _))) (v := some .null) (fun h => by rw [Bd.returns] at h; cases h)
    refine ⟨_, _, ?_, hrun, hended, _, _, rfl, ?_, ?_, hR.1, hR.2.1, hR.2.2.1, hR.2.2.2.mono (by decide) (by decide)⟩
    · exact retOut X0 hx Bd.returns rfl (Or.inr (Or.inr (Or.inr (Or.inr ⟨rfl, rfl, rfl⟩)))) (hb hby d7_8) hr
    · show Q_mkcred _ _ _ _ _ _ s₁.heap _
      rw [e0]
      exact ⟨.null, false, rfl, N0, (Keep.refl h0 []), rfl, (by rw [csentB, if_neg hc1]), (Or.inl ⟨rfl, rfl⟩)⟩
    · show CHr Z consts_1 s.vm s.heap s₁.vm s₁.heap
      rw [hh, e0]
      exact CHr.trans C0 (CHv.at X0 hZ (hEL hw) C0.1)
def Q_logon (Z : State) (a1 : Addr) (v0 : Value) (v1 : Value) (v2 : Value) (v3 : Value) (v4 : Value) (v5 : Value) (h0 : Heap) (n0 : Nat) (vR : Option Value) (h : Heap) (L : List Loc) : Prop := vR = none ∧ Fr n0 L ∧ Keep h0 h [a1] ∧ (Exa Z h a1 "com/example/credence/credence/Logon") ∧ (Fld Z h a1 "com/example/credence/credence/Logon" "namespace" "Ljava/lang/String;" v0) ∧ (Fld Z h a1 "com/example/credence/credence/Logon" "trustedCredential" "Ljava/lang/String;" v1) ∧ (Fld Z h a1 "com/example/credence/credence/Logon" "credentials" "Lcom/example/credence/credence/Credentials;" v2) ∧ (Fld Z h a1 "com/example/credence/credence/Logon" "form" "Lcom/example/credence/credence/Credentials;" v3) ∧ (Fld Z h a1 "com/example/credence/credence/Logon" "token" "Ljava/lang/String;" v4) ∧ (Fld Z h a1 "com/example/credence/credence/Logon" "trusted" "Ljava/lang/String;" v5)
theorem ef_logon (m : MethodId) (x0 : Addr) (x1 : Value) (hx1 : x1.isRef = true) (x2 : Value) (hx2 : x2.isRef = true) (x3 : Value) (hx3 : x3.isRef = true) (x4 : Value) (hx4 : x4.isRef = true) (x5 : Value) (hx5 : x5.isRef = true) (x6 : Value) (hx6 : x6.isRef = true) : entryFrame m #[(.ref x0), x1, x2, x3, x4, x5, x6] 7 = mkF m 0 #[.val (.ref x0), .val x1, .val x2, .val x3, .val x4, .val x5, .val x6] [] := by rcases ref_cases hx1 with rfl | ⟨y1, rfl⟩ <;> rcases ref_cases hx2 with rfl | ⟨y2, rfl⟩ <;> rcases ref_cases hx3 with rfl | ⟨y3, rfl⟩ <;> rcases ref_cases hx4 with rfl | ⟨y4, rfl⟩ <;> rcases ref_cases hx5 with rfl | ⟨y5, rfl⟩ <;> rcases ref_cases hx6 with rfl | ⟨y6, rfl⟩ <;> simp [entryFrame, mkF, argsToLocals, Value.category]
set_option maxRecDepth 65536 in
set_option maxHeartbeats 40000000 in
theorem rm_logon (l : Launch) (Z : State) (a0 : Array Value) (hw : ∀ d ∈ tables_1, d.before a0 Z = true) (ws : List Jvm.Cond) (a1 : Addr) (v0 : Value) (v1 : Value) (v2 : Value) (v3 : Value) (v4 : Value) (v5 : Value) (h0 : Heap) (n0 : Nat) (Z0 : n0 ≤ h0.size) (H0 : Exa Z h0 a1 "com/example/credence/credence/Logon") (H1 : Fld Z h0 a1 "com/example/credence/credence/Logon" "namespace" "Ljava/lang/String;" .null) (H2 : Fld Z h0 a1 "com/example/credence/credence/Logon" "trustedCredential" "Ljava/lang/String;" .null) (H3 : Fld Z h0 a1 "com/example/credence/credence/Logon" "credentials" "Lcom/example/credence/credence/Credentials;" .null) (H4 : Fld Z h0 a1 "com/example/credence/credence/Logon" "form" "Lcom/example/credence/credence/Credentials;" .null) (H5 : Fld Z h0 a1 "com/example/credence/credence/Logon" "token" "Ljava/lang/String;" .null) (H6 : Fld Z h0 a1 "com/example/credence/credence/Logon" "trusted" "Ljava/lang/String;" .null) (g_a1 : n0 ≤ a1) (hv0 : v0.isRef = true) (hv1 : v1.isRef = true) (hv2 : v2.isRef = true) (hv3 : v3.isRef = true) (hv4 : v4.isRef = true) (hv5 : v5.isRef = true) :
    MetFree l (⟨"com/example/credence/credence/Logon", "<init>", "(Ljava/lang/String;Ljava/lang/String;Lcom/example/credence/credence/Credentials;Lcom/example/credence/credence/Credentials;Ljava/lang/String;Ljava/lang/String;)V"⟩ : MethodName) (head1 (Jvm.Cond.code (⟨"com/example/credence/credence/Logon", "<init>", "(Ljava/lang/String;Ljava/lang/String;Lcom/example/credence/credence/Credentials;Lcom/example/credence/credence/Credentials;Ljava/lang/String;Ljava/lang/String;)V"⟩ : MethodName) prog_4_method_4_code 7 none :: ws) ({ frames := 2, cells := 0, slots := 0, locals := 24 } : Room)) (fun a U => a = #[(.ref a1), v0, v1, v2, v3, v4, v5] ∧ Z.Warmed39 U.vm ∧ U.heap = h0) (fun _ _ _ _ _ => True) (fun _ U o U' => ∃ v L, o = .returned v ∧ Q_logon Z a1 v0 v1 v2 v3 v4 v5 h0 n0 v U'.heap L ∧ FrameEnd U o U' L ({ frames := 2, cells := 0, slots := 0, locals := 24 } : Room).cells ({ frames := 2, cells := 0, slots := 0, locals := 24 } : Room).slots) := by
  refine MetFree.of_bodySF (plainFor_of_name pn_com_example_credence_credence_Logon) hisR ?_
  intro p e s m args below meth c s₁ Bd hml0 hP hK
  obtain ⟨rfl, hZ, hh⟩ := hP
  have hx := Bd.exec
  have hby := Bd.bytes
  have hml : c.maxLocals = 7 := hml0
  have hown : s.vm.findClass "com/example/credence/credence/Logon" = some m.cls := findClass_of_methodNamed Bd.named
  have hnm := (name_of_methodNamed Bd.named Bd.method).1
  have X0 : Stand p l e ({ frames := 2, cells := 0, slots := 0, locals := 24 } : Room) s m #[(.ref a1), v0, v1, v2, v3, v4, v5] below meth c s₁ [] 0 0 := Stand.of_body Bd
  have e0 : s₁.heap = h0 := by rw [← hh, Bd.state]; rfl
  have N0 := Fr.nil n0
  refine go_st (fun t k => castTop (ef_logon m a1 v0 hv0 v1 hv1 v2 hv2 v3 hv3 v4 hv4 v5 hv5) k) ?_
  show Go _ _ _ _ (s₁.setTop (mkF m 0 #[rv a1, .val v0, .val v1, .val v2, .val v3, .val v4, .val v5] []))
  refine go_st (fun t k => XS.aloadN X0.here hx rfl (hb hby d8_0) rfl rfl k) ?_
  show Go _ _ _ _ (s₁.setTop (mkF m 1 #[rv a1, .val v0, .val v1, .val v2, .val v3, .val v4, .val v5] [(.ref a1)]))
  obtain ⟨_, _, ⟨T1, L1, kk1, nn1⟩, -, X1, ⟨Lc1, hQ1, lq1, yq1, zq1⟩, st1⟩ := X0.specialBack hx (y := (⟨"java/lang/Record", "<init>", "()V"⟩ : MethodName)) rfl hown (mvT hZ (w65 hw)) (mvT hZ (w47 hw)) (mvT hZ (w50 hw)) (by decide) (backOf (W := 0) (rm_rec l Z a0 hw [] a1 h0 n0 (Nat.le_trans Z0 (Nat.le_refl _)) ) hZ (w50 hw) (w49 hw) (by decide) (by decide)) (g := (mkF m 1 #[rv a1, .val v0, .val v1, .val v2, .val v3, .val v4, .val v5] [(.ref a1)])) rfl (by rw [hml]; rfl) (Steps.refl _) (a := a1) (argsL := []) (rest := []) (lenOf pd_0 rfl) rfl (by show 2 * 0 + _ ≤ _; exact Nat.le_of_eq rfl) (hb hby d8_1) (fun _ _ => ⟨rfl, e0, (by decide : 0 + 0 ≤ _), (by decide : 0 + 0 ≤ _)⟩)
  dsimp only [Pt.U, Pt.locs, Pt.cells, Pt.slots] at X1 lq1 yq1 zq1 st1 hQ1
  subst lq1 yq1 zq1
  obtain ⟨h1, e1⟩ : ∃ z, T1.heap = z := ⟨_, rfl⟩
  rw [e1] at hQ1
  obtain ⟨rfl, N1q, he1⟩ := hQ1
  have N1 := Fr.app N0 N1q
  rw [he1] at e1
  refine go_tr st1 ?_
  show Go _ _ _ _ (T1.setTop (mkF m 4 #[rv a1, .val v0, .val v1, .val v2, .val v3, .val v4, .val v5] []))
  refine go_st (fun t k => XS.aloadN X1.here hx rfl (hb hby d8_4) rfl rfl k) ?_
  show Go _ _ _ _ (T1.setTop (mkF m 5 #[rv a1, .val v0, .val v1, .val v2, .val v3, .val v4, .val v5] [(.ref a1)]))
  refine go_st (fun t k => XS.aloadN X1.here hx rfl (hb hby d8_5) rfl hv0 k) ?_
  show Go _ _ _ _ (T1.setTop (mkF m 6 #[rv a1, .val v0, .val v1, .val v2, .val v3, .val v4, .val v5] [v0, (.ref a1)]))
  obtain ⟨T2, h2, X2, e2, W2, st2⟩ := putF X1 hx hZ hown (host := "") (Or.inl (w66 hw)) Via.refl e1 H1 H0 (Or.inr ⟨(w67 hw), rfl, hnm⟩) (w60 hw) (ty := (.object "java/lang/String")) (by decide) (ref_narrow _ hv0) (ref_fits _ hv0) (g := (mkF m 6 #[rv a1, .val v0, .val v1, .val v2, .val v3, .val v4, .val v5] [v0, (.ref a1)])) rfl rfl (hb hby d8_6)
  have N2 := Fr.snoc X2 N1 g_a1
  have f3 : Fld Z h2 a1 "com/example/credence/credence/Logon" "namespace" "Ljava/lang/String;" v0 := H1.same W2
  refine go_st (fun t k => st2 t k) ?_
  show Go _ _ _ _ (T2.setTop (mkF m 9 #[rv a1, .val v0, .val v1, .val v2, .val v3, .val v4, .val v5] []))
  refine go_st (fun t k => XS.aloadN X2.here hx rfl (hb hby d8_9) rfl rfl k) ?_
  show Go _ _ _ _ (T2.setTop (mkF m 10 #[rv a1, .val v0, .val v1, .val v2, .val v3, .val v4, .val v5] [(.ref a1)]))
  refine go_st (fun t k => XS.aloadN X2.here hx rfl (hb hby d8_10) rfl hv1 k) ?_
  show Go _ _ _ _ (T2.setTop (mkF m 11 #[rv a1, .val v0, .val v1, .val v2, .val v3, .val v4, .val v5] [v1, (.ref a1)]))
  have f4 : Fld Z h2 a1 "com/example/credence/credence/Logon" "trustedCredential" "Ljava/lang/String;" .null := (H2.other W2 (Or.inr (slot_ne (Or.inr (w69 hw)) (Or.inr (w67 hw)) (by decide) (t := (.object "java/lang/String")) (t' := (.object "java/lang/String")) (by decide) (by decide))))
  have f5 : Exa Z h2 a1 "com/example/credence/credence/Logon" := (H0.wr W2)
  obtain ⟨T6, h6, X6, e6, W6, st6⟩ := putF X2 hx hZ hown (host := "") (Or.inl (w68 hw)) Via.refl e2 f4 f5 (Or.inr ⟨(w69 hw), rfl, hnm⟩) (w60 hw) (ty := (.object "java/lang/String")) (by decide) (ref_narrow _ hv1) (ref_fits _ hv1) (g := (mkF m 11 #[rv a1, .val v0, .val v1, .val v2, .val v3, .val v4, .val v5] [v1, (.ref a1)])) rfl rfl (hb hby d8_11)
  have N6 := Fr.snoc X6 N2 g_a1
  have f7 : Fld Z h6 a1 "com/example/credence/credence/Logon" "trustedCredential" "Ljava/lang/String;" v1 := f4.same W6
  refine go_st (fun t k => st6 t k) ?_
  show Go _ _ _ _ (T6.setTop (mkF m 14 #[rv a1, .val v0, .val v1, .val v2, .val v3, .val v4, .val v5] []))
  refine go_st (fun t k => XS.aloadN X6.here hx rfl (hb hby d8_14) rfl rfl k) ?_
  show Go _ _ _ _ (T6.setTop (mkF m 15 #[rv a1, .val v0, .val v1, .val v2, .val v3, .val v4, .val v5] [(.ref a1)]))
  refine go_st (fun t k => XS.aloadN X6.here hx rfl (hb hby d8_15) rfl hv2 k) ?_
  show Go _ _ _ _ (T6.setTop (mkF m 16 #[rv a1, .val v0, .val v1, .val v2, .val v3, .val v4, .val v5] [v2, (.ref a1)]))
  have f8 : Fld Z h6 a1 "com/example/credence/credence/Logon" "credentials" "Lcom/example/credence/credence/Credentials;" .null := ((H3.other W2 (Or.inr (slot_ne (Or.inr (w71 hw)) (Or.inr (w67 hw)) (by decide) (t := (.object "com/example/credence/credence/Credentials")) (t' := (.object "java/lang/String")) (by decide) (by decide)))).other W6 (Or.inr (slot_ne (Or.inr (w71 hw)) (Or.inr (w69 hw)) (by decide) (t := (.object "com/example/credence/credence/Credentials")) (t' := (.object "java/lang/String")) (by decide) (by decide))))
  have f9 : Exa Z h6 a1 "com/example/credence/credence/Logon" := (f5.wr W6)
  obtain ⟨T10, h10, X10, e10, W10, st10⟩ := putF X6 hx hZ hown (host := "") (Or.inl (w70 hw)) Via.refl e6 f8 f9 (Or.inr ⟨(w71 hw), rfl, hnm⟩) (w60 hw) (ty := (.object "com/example/credence/credence/Credentials")) (by decide) (ref_narrow _ hv2) (ref_fits _ hv2) (g := (mkF m 16 #[rv a1, .val v0, .val v1, .val v2, .val v3, .val v4, .val v5] [v2, (.ref a1)])) rfl rfl (hb hby d8_16)
  have N10 := Fr.snoc X10 N6 g_a1
  have f11 : Fld Z h10 a1 "com/example/credence/credence/Logon" "credentials" "Lcom/example/credence/credence/Credentials;" v2 := f8.same W10
  refine go_st (fun t k => st10 t k) ?_
  show Go _ _ _ _ (T10.setTop (mkF m 19 #[rv a1, .val v0, .val v1, .val v2, .val v3, .val v4, .val v5] []))
  refine go_st (fun t k => XS.aloadN X10.here hx rfl (hb hby d8_19) rfl rfl k) ?_
  show Go _ _ _ _ (T10.setTop (mkF m 20 #[rv a1, .val v0, .val v1, .val v2, .val v3, .val v4, .val v5] [(.ref a1)]))
  refine go_st (fun t k => XS.aload X10.here hx rfl (hb hby d8_20) rfl hv3 k) ?_
  show Go _ _ _ _ (T10.setTop (mkF m 22 #[rv a1, .val v0, .val v1, .val v2, .val v3, .val v4, .val v5] [v3, (.ref a1)]))
  have f12 : Fld Z h10 a1 "com/example/credence/credence/Logon" "form" "Lcom/example/credence/credence/Credentials;" .null := (((H4.other W2 (Or.inr (slot_ne (Or.inr (w73 hw)) (Or.inr (w67 hw)) (by decide) (t := (.object "com/example/credence/credence/Credentials")) (t' := (.object "java/lang/String")) (by decide) (by decide)))).other W6 (Or.inr (slot_ne (Or.inr (w73 hw)) (Or.inr (w69 hw)) (by decide) (t := (.object "com/example/credence/credence/Credentials")) (t' := (.object "java/lang/String")) (by decide) (by decide)))).other W10 (Or.inr (slot_ne (Or.inr (w73 hw)) (Or.inr (w71 hw)) (by decide) (t := (.object "com/example/credence/credence/Credentials")) (t' := (.object "com/example/credence/credence/Credentials")) (by decide) (by decide))))
  have f13 : Exa Z h10 a1 "com/example/credence/credence/Logon" := (f9.wr W10)
  obtain ⟨T14, h14, X14, e14, W14, st14⟩ := putF X10 hx hZ hown (host := "") (Or.inl (w72 hw)) Via.refl e10 f12 f13 (Or.inr ⟨(w73 hw), rfl, hnm⟩) (w60 hw) (ty := (.object "com/example/credence/credence/Credentials")) (by decide) (ref_narrow _ hv3) (ref_fits _ hv3) (g := (mkF m 22 #[rv a1, .val v0, .val v1, .val v2, .val v3, .val v4, .val v5] [v3, (.ref a1)])) rfl rfl (hb hby d8_22)
  have N14 := Fr.snoc X14 N10 g_a1
  have f15 : Fld Z h14 a1 "com/example/credence/credence/Logon" "form" "Lcom/example/credence/credence/Credentials;" v3 := f12.same W14
  refine go_st (fun t k => st14 t k) ?_
  show Go _ _ _ _ (T14.setTop (mkF m 25 #[rv a1, .val v0, .val v1, .val v2, .val v3, .val v4, .val v5] []))
  refine go_st (fun t k => XS.aloadN X14.here hx rfl (hb hby d8_25) rfl rfl k) ?_
  show Go _ _ _ _ (T14.setTop (mkF m 26 #[rv a1, .val v0, .val v1, .val v2, .val v3, .val v4, .val v5] [(.ref a1)]))
  refine go_st (fun t k => XS.aload X14.here hx rfl (hb hby d8_26) rfl hv4 k) ?_
  show Go _ _ _ _ (T14.setTop (mkF m 28 #[rv a1, .val v0, .val v1, .val v2, .val v3, .val v4, .val v5] [v4, (.ref a1)]))
  have f16 : Fld Z h14 a1 "com/example/credence/credence/Logon" "token" "Ljava/lang/String;" .null := ((((H5.other W2 (Or.inr (slot_ne (Or.inr (w75 hw)) (Or.inr (w67 hw)) (by decide) (t := (.object "java/lang/String")) (t' := (.object "java/lang/String")) (by decide) (by decide)))).other W6 (Or.inr (slot_ne (Or.inr (w75 hw)) (Or.inr (w69 hw)) (by decide) (t := (.object "java/lang/String")) (t' := (.object "java/lang/String")) (by decide) (by decide)))).other W10 (Or.inr (slot_ne (Or.inr (w75 hw)) (Or.inr (w71 hw)) (by decide) (t := (.object "java/lang/String")) (t' := (.object "com/example/credence/credence/Credentials")) (by decide) (by decide)))).other W14 (Or.inr (slot_ne (Or.inr (w75 hw)) (Or.inr (w73 hw)) (by decide) (t := (.object "java/lang/String")) (t' := (.object "com/example/credence/credence/Credentials")) (by decide) (by decide))))
  have f17 : Exa Z h14 a1 "com/example/credence/credence/Logon" := (f13.wr W14)
  obtain ⟨T18, h18, X18, e18, W18, st18⟩ := putF X14 hx hZ hown (host := "") (Or.inl (w74 hw)) Via.refl e14 f16 f17 (Or.inr ⟨(w75 hw), rfl, hnm⟩) (w60 hw) (ty := (.object "java/lang/String")) (by decide) (ref_narrow _ hv4) (ref_fits _ hv4) (g := (mkF m 28 #[rv a1, .val v0, .val v1, .val v2, .val v3, .val v4, .val v5] [v4, (.ref a1)])) rfl rfl (hb hby d8_28)
  have N18 := Fr.snoc X18 N14 g_a1
  have f19 : Fld Z h18 a1 "com/example/credence/credence/Logon" "token" "Ljava/lang/String;" v4 := f16.same W18
  refine go_st (fun t k => st18 t k) ?_
  show Go _ _ _ _ (T18.setTop (mkF m 31 #[rv a1, .val v0, .val v1, .val v2, .val v3, .val v4, .val v5] []))
  refine go_st (fun t k => XS.aloadN X18.here hx rfl (hb hby d8_31) rfl rfl k) ?_
  show Go _ _ _ _ (T18.setTop (mkF m 32 #[rv a1, .val v0, .val v1, .val v2, .val v3, .val v4, .val v5] [(.ref a1)]))
  refine go_st (fun t k => XS.aload X18.here hx rfl (hb hby d8_32) rfl hv5 k) ?_
  show Go _ _ _ _ (T18.setTop (mkF m 34 #[rv a1, .val v0, .val v1, .val v2, .val v3, .val v4, .val v5] [v5, (.ref a1)]))
  have f20 : Fld Z h18 a1 "com/example/credence/credence/Logon" "trusted" "Ljava/lang/String;" .null := (((((H6.other W2 (Or.inr (slot_ne (Or.inr (w77 hw)) (Or.inr (w67 hw)) (by decide) (t := (.object "java/lang/String")) (t' := (.object "java/lang/String")) (by decide) (by decide)))).other W6 (Or.inr (slot_ne (Or.inr (w77 hw)) (Or.inr (w69 hw)) (by decide) (t := (.object "java/lang/String")) (t' := (.object "java/lang/String")) (by decide) (by decide)))).other W10 (Or.inr (slot_ne (Or.inr (w77 hw)) (Or.inr (w71 hw)) (by decide) (t := (.object "java/lang/String")) (t' := (.object "com/example/credence/credence/Credentials")) (by decide) (by decide)))).other W14 (Or.inr (slot_ne (Or.inr (w77 hw)) (Or.inr (w73 hw)) (by decide) (t := (.object "java/lang/String")) (t' := (.object "com/example/credence/credence/Credentials")) (by decide) (by decide)))).other W18 (Or.inr (slot_ne (Or.inr (w77 hw)) (Or.inr (w75 hw)) (by decide) (t := (.object "java/lang/String")) (t' := (.object "java/lang/String")) (by decide) (by decide))))
  have f21 : Exa Z h18 a1 "com/example/credence/credence/Logon" := (f17.wr W18)
  obtain ⟨T22, h22, X22, e22, W22, st22⟩ := putF X18 hx hZ hown (host := "") (Or.inl (w76 hw)) Via.refl e18 f20 f21 (Or.inr ⟨(w77 hw), rfl, hnm⟩) (w60 hw) (ty := (.object "java/lang/String")) (by decide) (ref_narrow _ hv5) (ref_fits _ hv5) (g := (mkF m 34 #[rv a1, .val v0, .val v1, .val v2, .val v3, .val v4, .val v5] [v5, (.ref a1)])) rfl rfl (hb hby d8_34)
  have N22 := Fr.snoc X22 N18 g_a1
  have f23 : Fld Z h22 a1 "com/example/credence/credence/Logon" "trusted" "Ljava/lang/String;" v5 := f20.same W22
  refine go_st (fun t k => st22 t k) ?_
  show Go _ _ _ _ (T22.setTop (mkF m 37 #[rv a1, .val v0, .val v1, .val v2, .val v3, .val v4, .val v5] []))
  have f24 : Exa Z h22 a1 "com/example/credence/credence/Logon" := (f21.wr W22)
  have f25 : Fld Z h22 a1 "com/example/credence/credence/Logon" "namespace" "Ljava/lang/String;" v0 := (((((f3.other W6 (Or.inr (slot_ne (Or.inr (w67 hw)) (Or.inr (w69 hw)) (by decide) (t := (.object "java/lang/String")) (t' := (.object "java/lang/String")) (by decide) (by decide)))).other W10 (Or.inr (slot_ne (Or.inr (w67 hw)) (Or.inr (w71 hw)) (by decide) (t := (.object "java/lang/String")) (t' := (.object "com/example/credence/credence/Credentials")) (by decide) (by decide)))).other W14 (Or.inr (slot_ne (Or.inr (w67 hw)) (Or.inr (w73 hw)) (by decide) (t := (.object "java/lang/String")) (t' := (.object "com/example/credence/credence/Credentials")) (by decide) (by decide)))).other W18 (Or.inr (slot_ne (Or.inr (w67 hw)) (Or.inr (w75 hw)) (by decide) (t := (.object "java/lang/String")) (t' := (.object "java/lang/String")) (by decide) (by decide)))).other W22 (Or.inr (slot_ne (Or.inr (w67 hw)) (Or.inr (w77 hw)) (by decide) (t := (.object "java/lang/String")) (t' := (.object "java/lang/String")) (by decide) (by decide))))
  have f26 : Fld Z h22 a1 "com/example/credence/credence/Logon" "trustedCredential" "Ljava/lang/String;" v1 := ((((f7.other W10 (Or.inr (slot_ne (Or.inr (w69 hw)) (Or.inr (w71 hw)) (by decide) (t := (.object "java/lang/String")) (t' := (.object "com/example/credence/credence/Credentials")) (by decide) (by decide)))).other W14 (Or.inr (slot_ne (Or.inr (w69 hw)) (Or.inr (w73 hw)) (by decide) (t := (.object "java/lang/String")) (t' := (.object "com/example/credence/credence/Credentials")) (by decide) (by decide)))).other W18 (Or.inr (slot_ne (Or.inr (w69 hw)) (Or.inr (w75 hw)) (by decide) (t := (.object "java/lang/String")) (t' := (.object "java/lang/String")) (by decide) (by decide)))).other W22 (Or.inr (slot_ne (Or.inr (w69 hw)) (Or.inr (w77 hw)) (by decide) (t := (.object "java/lang/String")) (t' := (.object "java/lang/String")) (by decide) (by decide))))
  have f27 : Fld Z h22 a1 "com/example/credence/credence/Logon" "credentials" "Lcom/example/credence/credence/Credentials;" v2 := (((f11.other W14 (Or.inr (slot_ne (Or.inr (w71 hw)) (Or.inr (w73 hw)) (by decide) (t := (.object "com/example/credence/credence/Credentials")) (t' := (.object "com/example/credence/credence/Credentials")) (by decide) (by decide)))).other W18 (Or.inr (slot_ne (Or.inr (w71 hw)) (Or.inr (w75 hw)) (by decide) (t := (.object "com/example/credence/credence/Credentials")) (t' := (.object "java/lang/String")) (by decide) (by decide)))).other W22 (Or.inr (slot_ne (Or.inr (w71 hw)) (Or.inr (w77 hw)) (by decide) (t := (.object "com/example/credence/credence/Credentials")) (t' := (.object "java/lang/String")) (by decide) (by decide))))
  have f28 : Fld Z h22 a1 "com/example/credence/credence/Logon" "form" "Lcom/example/credence/credence/Credentials;" v3 := ((f15.other W18 (Or.inr (slot_ne (Or.inr (w73 hw)) (Or.inr (w75 hw)) (by decide) (t := (.object "com/example/credence/credence/Credentials")) (t' := (.object "java/lang/String")) (by decide) (by decide)))).other W22 (Or.inr (slot_ne (Or.inr (w73 hw)) (Or.inr (w77 hw)) (by decide) (t := (.object "com/example/credence/credence/Credentials")) (t' := (.object "java/lang/String")) (by decide) (by decide))))
  have f29 : Fld Z h22 a1 "com/example/credence/credence/Logon" "token" "Ljava/lang/String;" v4 := (f19.other W22 (Or.inr (slot_ne (Or.inr (w75 hw)) (Or.inr (w77 hw)) (by decide) (t := (.object "java/lang/String")) (t' := (.object "java/lang/String")) (by decide) (by decide))))
  have ke30 : Keep h0 h2 [a1] := (Keep.wr (Keep.refl h0 [a1]) W2 (Or.inl (List.mem_of_getElem? (i := 0) rfl)))
  have ke31 : Keep h0 h6 [a1] := (Keep.wr ke30 W6 (Or.inl (List.mem_of_getElem? (i := 0) rfl)))
  have ke32 : Keep h0 h10 [a1] := (Keep.wr ke31 W10 (Or.inl (List.mem_of_getElem? (i := 0) rfl)))
  have ke33 : Keep h0 h14 [a1] := (Keep.wr ke32 W14 (Or.inl (List.mem_of_getElem? (i := 0) rfl)))
  have ke34 : Keep h0 h18 [a1] := (Keep.wr ke33 W18 (Or.inl (List.mem_of_getElem? (i := 0) rfl)))
  have ke35 : Keep h0 h22 [a1] := (Keep.wr ke34 W22 (Or.inl (List.mem_of_getElem? (i := 0) rfl)))
  obtain ⟨fs, hr, hrun, hended, hW, hsame⟩ := X22.leave (v := none) (fun _ => rfl)
  refine ⟨_, _, ?_, hrun, hended, _, _, rfl, ?_, ⟨_, rfl⟩, hW, hsame.mono (by decide) (by decide)⟩
  · exact X22.returnOut hx Bd.returns (hb hby d8_37) hr
  · show Q_logon _ _ _ _ _ _ _ _ _ _ _ T22.heap _
    rw [e22]
    exact ⟨rfl, N22, ke35, f24, f25, f26, f27, f28, f29, f23⟩
def Q_sends (Z : State) (a1 : Addr) (v1 : Value) (v2 : Value) (v3 : Value) (v4 : Value) (v5 : Value) (n1 : Bool) (n2 : Bool) (n3 : Bool) (n4 : Bool) (n5 : Bool) (h0 : Heap) (n0 : Nat) (vR : Option Value) (h : Heap) (L : List Loc) : Prop := ∃ (r : Int32), vR = some (.int r) ∧ Fr n0 L ∧ h = h0 ∧ (r = (if (n1 || n2 || n3 || n4 || n5) = true then 0 else 1))
theorem ef_sends (m : MethodId) (x0 : Addr) : entryFrame m #[(.ref x0)] 1 = mkF m 0 #[.val (.ref x0)] [] := by first | (simp [entryFrame, mkF, argsToLocals, Value.category]; done) | rfl
set_option maxRecDepth 65536 in
set_option maxHeartbeats 40000000 in
theorem rm_sends (l : Launch) (Z : State) (a0 : Array Value) (hw : ∀ d ∈ tables_1, d.before a0 Z = true) (ws : List Jvm.Cond) (a1 : Addr) (v1 : Value) (v2 : Value) (v3 : Value) (v4 : Value) (v5 : Value) (n1 : Bool) (n2 : Bool) (n3 : Bool) (n4 : Bool) (n5 : Bool) (h0 : Heap) (n0 : Nat) (Z0 : n0 ≤ h0.size) (H0 : Fld Z h0 a1 "com/example/credence/credence/Logon" "trustedCredential" "Ljava/lang/String;" v1) (H1 : Fld Z h0 a1 "com/example/credence/credence/Logon" "credentials" "Lcom/example/credence/credence/Credentials;" v2) (H2 : Fld Z h0 a1 "com/example/credence/credence/Logon" "form" "Lcom/example/credence/credence/Credentials;" v3) (H3 : Fld Z h0 a1 "com/example/credence/credence/Logon" "token" "Ljava/lang/String;" v4) (H4 : Fld Z h0 a1 "com/example/credence/credence/Logon" "trusted" "Ljava/lang/String;" v5) (hv1 : v1.isRef = true) (hv2 : v2.isRef = true) (hv3 : v3.isRef = true) (hv4 : v4.isRef = true) (hv5 : v5.isRef = true) (H10 : OStr Z h0 v1 n1) (H11 : OCred Z h0 v2 n2) (H12 : OCred Z h0 v3 n3) (H13 : OStr Z h0 v4 n4) (H14 : OStr Z h0 v5 n5) :
    MetFree l (⟨"com/example/credence/credence/Logon", "sendsNothing", "()Z"⟩ : MethodName) (head1 (Jvm.Cond.code (⟨"com/example/credence/credence/Logon", "sendsNothing", "()Z"⟩ : MethodName) prog_4_method_6_code 1 (some .boolean) :: ws) ({ frames := 2, cells := 0, slots := 0, locals := 24 } : Room)) (fun a U => a = #[(.ref a1)] ∧ Z.Warmed39 U.vm ∧ U.heap = h0) (fun _ _ _ _ _ => True) (fun _ U o U' => ∃ v L, o = .returned v ∧ Q_sends Z a1 v1 v2 v3 v4 v5 n1 n2 n3 n4 n5 h0 n0 v U'.heap L ∧ FrameEnd U o U' L ({ frames := 2, cells := 0, slots := 0, locals := 24 } : Room).cells ({ frames := 2, cells := 0, slots := 0, locals := 24 } : Room).slots) := by
  refine MetFree.of_bodySF (plainFor_of_name pn_com_example_credence_credence_Logon) hisR ?_
  intro p e s m args below meth c s₁ Bd hml0 hP hK
  obtain ⟨rfl, hZ, hh⟩ := hP
  have hx := Bd.exec
  have hby := Bd.bytes
  have hml : c.maxLocals = 1 := hml0
  have hown : s.vm.findClass "com/example/credence/credence/Logon" = some m.cls := findClass_of_methodNamed Bd.named
  have hnm := (name_of_methodNamed Bd.named Bd.method).1
  have X0 : Stand p l e ({ frames := 2, cells := 0, slots := 0, locals := 24 } : Room) s m #[(.ref a1)] below meth c s₁ [] 0 0 := Stand.of_body Bd
  have e0 : s₁.heap = h0 := by rw [← hh, Bd.state]; rfl
  have N0 := Fr.nil n0
  refine go_st (fun t k => castTop (ef_sends m a1) k) ?_
  refine go_named (fun PP hPP => ?_)
  show Go _ _ _ _ (s₁.setTop (mkF m 0 #[rv a1] []))
  have j1 : ∀ (T : State) (L : List Loc) , Stand p l e ({ frames := 2, cells := 0, slots := 0, locals := 24 } : Room) s m #[(.ref a1)] below meth c T L 0 0 → Fr n0 L → T.heap = h0 → (n1 = false) → Go p.tables e below PP (T.setTop (mkF m 17 #[rv a1] [])) := by
    intro T1 L1  X1 N1 e1 hn1
    show Go _ _ _ _ (T1.setTop (mkF m 17 #[rv a1] []))
    have j2 : ∀ (T : State) (L : List Loc) , Stand p l e ({ frames := 2, cells := 0, slots := 0, locals := 24 } : Room) s m #[(.ref a1)] below meth c T L 0 0 → Fr n0 L → T.heap = h0 → (n2 = false) → Go p.tables e below PP (T.setTop (mkF m 34 #[rv a1] [])) := by
      intro T2 L2  X2 N2 e2 hn2
      show Go _ _ _ _ (T2.setTop (mkF m 34 #[rv a1] []))
      have j3 : ∀ (T : State) (L : List Loc) , Stand p l e ({ frames := 2, cells := 0, slots := 0, locals := 24 } : Room) s m #[(.ref a1)] below meth c T L 0 0 → Fr n0 L → T.heap = h0 → (n3 = false) → Go p.tables e below PP (T.setTop (mkF m 51 #[rv a1] [])) := by
        intro T3 L3  X3 N3 e3 hn3
        show Go _ _ _ _ (T3.setTop (mkF m 51 #[rv a1] []))
        have j4 : ∀ (T : State) (L : List Loc) , Stand p l e ({ frames := 2, cells := 0, slots := 0, locals := 24 } : Room) s m #[(.ref a1)] below meth c T L 0 0 → Fr n0 L → T.heap = h0 → (n4 = false) → Go p.tables e below PP (T.setTop (mkF m 68 #[rv a1] [])) := by
          intro T4 L4  X4 N4 e4 hn4
          show Go _ _ _ _ (T4.setTop (mkF m 68 #[rv a1] []))
          have j5 : ∀ (T : State) (L : List Loc) , Stand p l e ({ frames := 2, cells := 0, slots := 0, locals := 24 } : Room) s m #[(.ref a1)] below meth c T L 0 0 → Fr n0 L → T.heap = h0 → (n5 = false) → Go p.tables e below PP (T.setTop (mkF m 85 #[rv a1] [])) := by
            intro T5 L5  X5 N5 e5 hn5
            show Go _ _ _ _ (T5.setTop (mkF m 85 #[rv a1] []))
            refine go_st (fun t k => XS.iconst X5.here hx rfl (hb hby d9_85) k) ?_
            show Go _ _ _ _ (T5.setTop (mkF m 86 #[rv a1] [(.int 1)]))
            refine go_st (fun t k => XS.goto X5.here hx rfl (pc0 := 86) (pc' := 90) rfl (hb hby d9_86) (by decide) (by decide) k) ?_
            show Go _ _ _ _ (T5.setTop (mkF m 90 #[rv a1] [(.int 1)]))
            subst hPP
            obtain ⟨fs, hr, hrun, hended, hW, hsame⟩ := X5.leave (v := some (.int 1)) (fun h => by rw [Bd.returns] at h; cases h)
            refine ⟨_, _, ?_, hrun, hended, _, _, rfl, ?_, ⟨_, rfl⟩, hW, hsame.mono (by decide) (by decide)⟩
            · exact retN X5 hx (t := .boolean) Bd.returns (by simp) (hb hby d9_90) hr
            · show Q_sends _ _ _ _ _ _ _ _ _ _ _ _ _ _ _ T5.heap _
              rw [e5]
              exact ⟨(1 : Int32), rfl, N5, rfl, (by simp [hn1, hn2, hn3, hn4, hn5])⟩
          refine go_st (fun t k => XS.aloadN X4.here hx rfl (hb hby d9_68) rfl rfl k) ?_
          show Go _ _ _ _ (T4.setTop (mkF m 69 #[rv a1] [(.ref a1)]))
          obtain ⟨T6, X6, e6, st6⟩ := getF X4 hx hZ hown (host := "") (Or.inl (w76 hw)) Via.refl e4 H4 (g := (mkF m 69 #[rv a1] [(.ref a1)])) rfl rfl (hb hby d9_69)
          refine go_st (fun t k => st6 t k) ?_
          show Go _ _ _ _ (T6.setTop (mkF m 72 #[rv a1] [v5]))
          rcases H14 with ⟨rfl, rfl⟩ | ⟨oa7, ot7, rfl, oF7, rfl⟩ | ⟨oa7, ot7, oc7, os7, rfl, oF7, rfl⟩
          · skip
            show Go _ _ _ _ (T6.setTop (mkF m 72 #[rv a1] [.null]))
            refine go_st (fun t k => XS.ifnullYes X6.here hx rfl (pc0 := 72) (pc' := 85) rfl (hb hby d9_72) rfl (by decide) (by decide) k) ?_
            show Go _ _ _ _ (T6.setTop (mkF m 85 #[rv a1] []))
            exact j5 _ _  X6 N4 e6 rfl
          · skip
            show Go _ _ _ _ (T6.setTop (mkF m 72 #[rv a1] [(.ref oa7)]))
            refine go_st (fun t k => XS.ifnullNo X6.here hx rfl (hb hby d9_72) rfl k) ?_
            show Go _ _ _ _ (T6.setTop (mkF m 75 #[rv a1] []))
            refine go_st (fun t k => XS.aloadN X6.here hx rfl (hb hby d9_75) rfl rfl k) ?_
            show Go _ _ _ _ (T6.setTop (mkF m 76 #[rv a1] [(.ref a1)]))
            obtain ⟨T8, X8, e8, st8⟩ := getF X6 hx hZ hown (host := "") (Or.inl (w76 hw)) Via.refl e6 H4 (g := (mkF m 76 #[rv a1] [(.ref a1)])) rfl rfl (hb hby d9_76)
            refine go_st (fun t k => st8 t k) ?_
            show Go _ _ _ _ (T8.setTop (mkF m 79 #[rv a1] [(.ref oa7)]))
            obtain ⟨cq9, kq9, q9a, q9b, q9c⟩ := isOf hZ e8 oF7.1
            obtain ⟨_, _, ⟨T9, L9, kk9, nn9⟩, -, X9, ⟨Lc9, hQ9, lq9, yq9, zq9⟩, st9⟩ := X8.virtualBack hx (y := (⟨"java/lang/String", "isEmpty", "()Z"⟩ : MethodName)) (z := (⟨"java/lang/String", "isEmpty", "()Z"⟩ : MethodName)) hown (mvT hZ (w86 hw)) (mvT hZ (w87 hw)) (notFace_of_selects (args := #[]) (mvT hZ (w89 hw))) (mvT hZ (w89 hw)) (mvT hZ (w88 hw)) (by decide) (empS (W := 0) hZ hw (kI := 4) (w5 hw) oF7 (by decide) (by decide)) q9a q9c (g := (mkF m 79 #[rv a1] [(.ref oa7)])) rfl (by rw [hml]; rfl) (Steps.refl _) (argsL := []) (rest := []) (lenOf pd_1 rfl) rfl (by show 2 * 0 + _ ≤ _; exact Nat.le_of_eq rfl) (hb hby d9_79) (fun _ _ => ⟨rfl, e8, (by decide : 0 + 0 ≤ _), (by decide : 0 + 0 ≤ _)⟩)
            dsimp only [Pt.U, Pt.locs, Pt.cells, Pt.slots] at X9 lq9 yq9 zq9 st9 hQ9
            subst lq9 yq9 zq9
            obtain ⟨h9, e9⟩ : ∃ z, T9.heap = z := ⟨_, rfl⟩
            rw [e9] at hQ9
            obtain ⟨rfl, rfl, he9⟩ := hQ9
            have N9 := Fr.app N4 (Fr.nil n0)
            rw [he9] at e9
            refine go_tr st9 ?_
            rw [show (if ([] : List Int32).length = 0 then (1 : Int32) else 0) = 1 from if_pos rfl]
            show Go _ _ _ _ (T9.setTop (mkF m 82 #[rv a1] [(.int 1)]))
            refine go_st (fun t k => XS.ifNo X9.here hx rfl (hb hby d9_82) rfl ((if0 _ _).trans (feq ((by decide) : ¬ ((1 : Int32) = (0 : Int32)))).1) k) ?_
            show Go _ _ _ _ (T9.setTop (mkF m 85 #[rv a1] []))
            exact j5 _ _  X9 N9 e9 rfl
          · skip
            show Go _ _ _ _ (T6.setTop (mkF m 72 #[rv a1] [(.ref oa7)]))
            refine go_st (fun t k => XS.ifnullNo X6.here hx rfl (hb hby d9_72) rfl k) ?_
            show Go _ _ _ _ (T6.setTop (mkF m 75 #[rv a1] []))
            refine go_st (fun t k => XS.aloadN X6.here hx rfl (hb hby d9_75) rfl rfl k) ?_
            show Go _ _ _ _ (T6.setTop (mkF m 76 #[rv a1] [(.ref a1)]))
            obtain ⟨T10, X10, e10, st10⟩ := getF X6 hx hZ hown (host := "") (Or.inl (w76 hw)) Via.refl e6 H4 (g := (mkF m 76 #[rv a1] [(.ref a1)])) rfl rfl (hb hby d9_76)
            refine go_st (fun t k => st10 t k) ?_
            show Go _ _ _ _ (T10.setTop (mkF m 79 #[rv a1] [(.ref oa7)]))
            obtain ⟨cq11, kq11, q11a, q11b, q11c⟩ := isOf hZ e10 oF7.1
            obtain ⟨_, _, ⟨T11, L11, kk11, nn11⟩, -, X11, ⟨Lc11, hQ11, lq11, yq11, zq11⟩, st11⟩ := X10.virtualBack hx (y := (⟨"java/lang/String", "isEmpty", "()Z"⟩ : MethodName)) (z := (⟨"java/lang/String", "isEmpty", "()Z"⟩ : MethodName)) hown (mvT hZ (w86 hw)) (mvT hZ (w87 hw)) (notFace_of_selects (args := #[]) (mvT hZ (w89 hw))) (mvT hZ (w89 hw)) (mvT hZ (w88 hw)) (by decide) (empS (W := 0) hZ hw (kI := 4) (w5 hw) oF7 (by decide) (by decide)) q11a q11c (g := (mkF m 79 #[rv a1] [(.ref oa7)])) rfl (by rw [hml]; rfl) (Steps.refl _) (argsL := []) (rest := []) (lenOf pd_1 rfl) rfl (by show 2 * 0 + _ ≤ _; exact Nat.le_of_eq rfl) (hb hby d9_79) (fun _ _ => ⟨rfl, e10, (by decide : 0 + 0 ≤ _), (by decide : 0 + 0 ≤ _)⟩)
            dsimp only [Pt.U, Pt.locs, Pt.cells, Pt.slots] at X11 lq11 yq11 zq11 st11 hQ11
            subst lq11 yq11 zq11
            obtain ⟨h11, e11⟩ : ∃ z, T11.heap = z := ⟨_, rfl⟩
            rw [e11] at hQ11
            obtain ⟨rfl, rfl, he11⟩ := hQ11
            have N11 := Fr.app N4 (Fr.nil n0)
            rw [he11] at e11
            refine go_tr st11 ?_
            rw [show (if ((oc7 :: os7) : List Int32).length = 0 then (1 : Int32) else 0) = 0 from if_neg (by simp)]
            show Go _ _ _ _ (T11.setTop (mkF m 82 #[rv a1] [(.int 0)]))
            refine go_st (fun t k => XS.ifYes X11.here hx rfl (pc0 := 82) (pc' := 89) rfl (hb hby d9_82) rfl ((if0 _ _).trans (teq ((by decide) : (0 : Int32) = (0 : Int32))).1) (by decide) (by decide) k) ?_
            show Go _ _ _ _ (T11.setTop (mkF m 89 #[rv a1] []))
            refine go_st (fun t k => XS.iconst X11.here hx rfl (hb hby d9_89) k) ?_
            show Go _ _ _ _ (T11.setTop (mkF m 90 #[rv a1] [(.int 0)]))
            subst hPP
            obtain ⟨fs, hr, hrun, hended, hW, hsame⟩ := X11.leave (v := some (.int 0)) (fun h => by rw [Bd.returns] at h; cases h)
            refine ⟨_, _, ?_, hrun, hended, _, _, rfl, ?_, ⟨_, rfl⟩, hW, hsame.mono (by decide) (by decide)⟩
            · exact retN X11 hx (t := .boolean) Bd.returns (by simp) (hb hby d9_90) hr
            · show Q_sends _ _ _ _ _ _ _ _ _ _ _ _ _ _ _ T11.heap _
              rw [e11]
              exact ⟨(0 : Int32), rfl, N11, rfl, (by simp [hn1, hn2, hn3, hn4])⟩
        refine go_st (fun t k => XS.aloadN X3.here hx rfl (hb hby d9_51) rfl rfl k) ?_
        show Go _ _ _ _ (T3.setTop (mkF m 52 #[rv a1] [(.ref a1)]))
        obtain ⟨T12, X12, e12, st12⟩ := getF X3 hx hZ hown (host := "") (Or.inl (w74 hw)) Via.refl e3 H3 (g := (mkF m 52 #[rv a1] [(.ref a1)])) rfl rfl (hb hby d9_52)
        refine go_st (fun t k => st12 t k) ?_
        show Go _ _ _ _ (T12.setTop (mkF m 55 #[rv a1] [v4]))
        rcases H13 with ⟨rfl, rfl⟩ | ⟨oa13, ot13, rfl, oF13, rfl⟩ | ⟨oa13, ot13, oc13, os13, rfl, oF13, rfl⟩
        · skip
          show Go _ _ _ _ (T12.setTop (mkF m 55 #[rv a1] [.null]))
          refine go_st (fun t k => XS.ifnullYes X12.here hx rfl (pc0 := 55) (pc' := 68) rfl (hb hby d9_55) rfl (by decide) (by decide) k) ?_
          show Go _ _ _ _ (T12.setTop (mkF m 68 #[rv a1] []))
          exact j4 _ _  X12 N3 e12 rfl
        · skip
          show Go _ _ _ _ (T12.setTop (mkF m 55 #[rv a1] [(.ref oa13)]))
          refine go_st (fun t k => XS.ifnullNo X12.here hx rfl (hb hby d9_55) rfl k) ?_
          show Go _ _ _ _ (T12.setTop (mkF m 58 #[rv a1] []))
          refine go_st (fun t k => XS.aloadN X12.here hx rfl (hb hby d9_58) rfl rfl k) ?_
          show Go _ _ _ _ (T12.setTop (mkF m 59 #[rv a1] [(.ref a1)]))
          obtain ⟨T14, X14, e14, st14⟩ := getF X12 hx hZ hown (host := "") (Or.inl (w74 hw)) Via.refl e12 H3 (g := (mkF m 59 #[rv a1] [(.ref a1)])) rfl rfl (hb hby d9_59)
          refine go_st (fun t k => st14 t k) ?_
          show Go _ _ _ _ (T14.setTop (mkF m 62 #[rv a1] [(.ref oa13)]))
          obtain ⟨cq15, kq15, q15a, q15b, q15c⟩ := isOf hZ e14 oF13.1
          obtain ⟨_, _, ⟨T15, L15, kk15, nn15⟩, -, X15, ⟨Lc15, hQ15, lq15, yq15, zq15⟩, st15⟩ := X14.virtualBack hx (y := (⟨"java/lang/String", "isEmpty", "()Z"⟩ : MethodName)) (z := (⟨"java/lang/String", "isEmpty", "()Z"⟩ : MethodName)) hown (mvT hZ (w86 hw)) (mvT hZ (w87 hw)) (notFace_of_selects (args := #[]) (mvT hZ (w89 hw))) (mvT hZ (w89 hw)) (mvT hZ (w88 hw)) (by decide) (empS (W := 0) hZ hw (kI := 4) (w5 hw) oF13 (by decide) (by decide)) q15a q15c (g := (mkF m 62 #[rv a1] [(.ref oa13)])) rfl (by rw [hml]; rfl) (Steps.refl _) (argsL := []) (rest := []) (lenOf pd_1 rfl) rfl (by show 2 * 0 + _ ≤ _; exact Nat.le_of_eq rfl) (hb hby d9_62) (fun _ _ => ⟨rfl, e14, (by decide : 0 + 0 ≤ _), (by decide : 0 + 0 ≤ _)⟩)
          dsimp only [Pt.U, Pt.locs, Pt.cells, Pt.slots] at X15 lq15 yq15 zq15 st15 hQ15
          subst lq15 yq15 zq15
          obtain ⟨h15, e15⟩ : ∃ z, T15.heap = z := ⟨_, rfl⟩
          rw [e15] at hQ15
          obtain ⟨rfl, rfl, he15⟩ := hQ15
          have N15 := Fr.app N3 (Fr.nil n0)
          rw [he15] at e15
          refine go_tr st15 ?_
          rw [show (if ([] : List Int32).length = 0 then (1 : Int32) else 0) = 1 from if_pos rfl]
          show Go _ _ _ _ (T15.setTop (mkF m 65 #[rv a1] [(.int 1)]))
          refine go_st (fun t k => XS.ifNo X15.here hx rfl (hb hby d9_65) rfl ((if0 _ _).trans (feq ((by decide) : ¬ ((1 : Int32) = (0 : Int32)))).1) k) ?_
          show Go _ _ _ _ (T15.setTop (mkF m 68 #[rv a1] []))
          exact j4 _ _  X15 N15 e15 rfl
        · skip
          show Go _ _ _ _ (T12.setTop (mkF m 55 #[rv a1] [(.ref oa13)]))
          refine go_st (fun t k => XS.ifnullNo X12.here hx rfl (hb hby d9_55) rfl k) ?_
          show Go _ _ _ _ (T12.setTop (mkF m 58 #[rv a1] []))
          refine go_st (fun t k => XS.aloadN X12.here hx rfl (hb hby d9_58) rfl rfl k) ?_
          show Go _ _ _ _ (T12.setTop (mkF m 59 #[rv a1] [(.ref a1)]))
          obtain ⟨T16, X16, e16, st16⟩ := getF X12 hx hZ hown (host := "") (Or.inl (w74 hw)) Via.refl e12 H3 (g := (mkF m 59 #[rv a1] [(.ref a1)])) rfl rfl (hb hby d9_59)
          refine go_st (fun t k => st16 t k) ?_
          show Go _ _ _ _ (T16.setTop (mkF m 62 #[rv a1] [(.ref oa13)]))
          obtain ⟨cq17, kq17, q17a, q17b, q17c⟩ := isOf hZ e16 oF13.1
          obtain ⟨_, _, ⟨T17, L17, kk17, nn17⟩, -, X17, ⟨Lc17, hQ17, lq17, yq17, zq17⟩, st17⟩ := X16.virtualBack hx (y := (⟨"java/lang/String", "isEmpty", "()Z"⟩ : MethodName)) (z := (⟨"java/lang/String", "isEmpty", "()Z"⟩ : MethodName)) hown (mvT hZ (w86 hw)) (mvT hZ (w87 hw)) (notFace_of_selects (args := #[]) (mvT hZ (w89 hw))) (mvT hZ (w89 hw)) (mvT hZ (w88 hw)) (by decide) (empS (W := 0) hZ hw (kI := 4) (w5 hw) oF13 (by decide) (by decide)) q17a q17c (g := (mkF m 62 #[rv a1] [(.ref oa13)])) rfl (by rw [hml]; rfl) (Steps.refl _) (argsL := []) (rest := []) (lenOf pd_1 rfl) rfl (by show 2 * 0 + _ ≤ _; exact Nat.le_of_eq rfl) (hb hby d9_62) (fun _ _ => ⟨rfl, e16, (by decide : 0 + 0 ≤ _), (by decide : 0 + 0 ≤ _)⟩)
          dsimp only [Pt.U, Pt.locs, Pt.cells, Pt.slots] at X17 lq17 yq17 zq17 st17 hQ17
          subst lq17 yq17 zq17
          obtain ⟨h17, e17⟩ : ∃ z, T17.heap = z := ⟨_, rfl⟩
          rw [e17] at hQ17
          obtain ⟨rfl, rfl, he17⟩ := hQ17
          have N17 := Fr.app N3 (Fr.nil n0)
          rw [he17] at e17
          refine go_tr st17 ?_
          rw [show (if ((oc13 :: os13) : List Int32).length = 0 then (1 : Int32) else 0) = 0 from if_neg (by simp)]
          show Go _ _ _ _ (T17.setTop (mkF m 65 #[rv a1] [(.int 0)]))
          refine go_st (fun t k => XS.ifYes X17.here hx rfl (pc0 := 65) (pc' := 89) rfl (hb hby d9_65) rfl ((if0 _ _).trans (teq ((by decide) : (0 : Int32) = (0 : Int32))).1) (by decide) (by decide) k) ?_
          show Go _ _ _ _ (T17.setTop (mkF m 89 #[rv a1] []))
          refine go_st (fun t k => XS.iconst X17.here hx rfl (hb hby d9_89) k) ?_
          show Go _ _ _ _ (T17.setTop (mkF m 90 #[rv a1] [(.int 0)]))
          subst hPP
          obtain ⟨fs, hr, hrun, hended, hW, hsame⟩ := X17.leave (v := some (.int 0)) (fun h => by rw [Bd.returns] at h; cases h)
          refine ⟨_, _, ?_, hrun, hended, _, _, rfl, ?_, ⟨_, rfl⟩, hW, hsame.mono (by decide) (by decide)⟩
          · exact retN X17 hx (t := .boolean) Bd.returns (by simp) (hb hby d9_90) hr
          · show Q_sends _ _ _ _ _ _ _ _ _ _ _ _ _ _ _ T17.heap _
            rw [e17]
            exact ⟨(0 : Int32), rfl, N17, rfl, (by simp [hn1, hn2, hn3])⟩
      refine go_st (fun t k => XS.aloadN X2.here hx rfl (hb hby d9_34) rfl rfl k) ?_
      show Go _ _ _ _ (T2.setTop (mkF m 35 #[rv a1] [(.ref a1)]))
      obtain ⟨T18, X18, e18, st18⟩ := getF X2 hx hZ hown (host := "") (Or.inl (w72 hw)) Via.refl e2 H2 (g := (mkF m 35 #[rv a1] [(.ref a1)])) rfl rfl (hb hby d9_35)
      refine go_st (fun t k => st18 t k) ?_
      show Go _ _ _ _ (T18.setTop (mkF m 38 #[rv a1] [v3]))
      rcases H12 with ⟨rfl, rfl⟩ | ⟨ca19, cv1_19, cv2_19, cn1_19, cn2_19, rfl, cE19, cF1_19, cF2_19, cO1_19, cO2_19, rfl⟩
      · skip
        show Go _ _ _ _ (T18.setTop (mkF m 38 #[rv a1] [.null]))
        refine go_st (fun t k => XS.ifnullYes X18.here hx rfl (pc0 := 38) (pc' := 51) rfl (hb hby d9_38) rfl (by decide) (by decide) k) ?_
        show Go _ _ _ _ (T18.setTop (mkF m 51 #[rv a1] []))
        exact j3 _ _  X18 N2 e18 rfl
      · skip
        have cR1_19 := OStr.isRef cO1_19
        have cR2_19 := OStr.isRef cO2_19
        show Go _ _ _ _ (T18.setTop (mkF m 38 #[rv a1] [(.ref ca19)]))
        refine go_st (fun t k => XS.ifnullNo X18.here hx rfl (hb hby d9_38) rfl k) ?_
        show Go _ _ _ _ (T18.setTop (mkF m 41 #[rv a1] []))
        refine go_st (fun t k => XS.aloadN X18.here hx rfl (hb hby d9_41) rfl rfl k) ?_
        show Go _ _ _ _ (T18.setTop (mkF m 42 #[rv a1] [(.ref a1)]))
        obtain ⟨T20, X20, e20, st20⟩ := getF X18 hx hZ hown (host := "") (Or.inl (w72 hw)) Via.refl e18 H2 (g := (mkF m 42 #[rv a1] [(.ref a1)])) rfl rfl (hb hby d9_42)
        refine go_st (fun t k => st20 t k) ?_
        show Go _ _ _ _ (T20.setTop (mkF m 45 #[rv a1] [(.ref ca19)]))
        obtain ⟨cq21, kq21, q21a, q21b, q21c⟩ := isOf hZ e20 cE19
        obtain ⟨_, _, ⟨T21, L21, kk21, nn21⟩, -, X21, ⟨Lc21, hQ21, lq21, yq21, zq21⟩, st21⟩ := X20.virtualBack hx (y := (⟨"com/example/credence/credence/Credentials", "blank", "()Z"⟩ : MethodName)) (z := (⟨"com/example/credence/credence/Credentials", "blank", "()Z"⟩ : MethodName)) hown (mvT hZ (w94 hw)) (mvT hZ (w95 hw)) (notFace_of_selects (args := #[]) (mvT hZ (w97 hw))) (mvT hZ (w97 hw)) (mvT hZ (w96 hw)) (by decide) (backOf (W := 0) (rm_blank l Z a0 hw [] ca19 cv1_19 cv2_19 cn1_19 cn2_19 h0 n0 (Nat.le_trans Z0 (Nat.le_refl _)) cF1_19 cF2_19 cR1_19 cR2_19 cO1_19 cO2_19) hZ (w98 hw) (w39 hw) (by decide) (by decide)) q21a q21c (g := (mkF m 45 #[rv a1] [(.ref ca19)])) rfl (by rw [hml]; rfl) (Steps.refl _) (argsL := []) (rest := []) (lenOf pd_1 rfl) rfl (by show 2 * 0 + _ ≤ _; exact Nat.le_of_eq rfl) (hb hby d9_45) (fun _ _ => ⟨rfl, e20, (by decide : 0 + 0 ≤ _), (by decide : 0 + 0 ≤ _)⟩)
        dsimp only [Pt.U, Pt.locs, Pt.cells, Pt.slots] at X21 lq21 yq21 zq21 st21 hQ21
        subst lq21 yq21 zq21
        obtain ⟨h21, e21⟩ : ∃ z, T21.heap = z := ⟨_, rfl⟩
        rw [e21] at hQ21
        obtain ⟨r_21, rfl, N21q, he21, hr_21⟩ := hQ21
        have N21 := Fr.app N2 N21q
        rw [he21] at e21
        refine go_tr st21 ?_
        show Go _ _ _ _ (T21.setTop (mkF m 48 #[rv a1] [(.int r_21)]))
        rcases Bool.eq_false_or_eq_true (cn1_19 || cn2_19) with hb22 | hb22
        · skip
          rw [hb22] at hr_21
          rw [if_neg (by decide)] at hr_21
          subst hr_21
          show Go _ _ _ _ (T21.setTop (mkF m 48 #[rv a1] [(.int 0)]))
          refine go_st (fun t k => XS.ifYes X21.here hx rfl (pc0 := 48) (pc' := 89) rfl (hb hby d9_48) rfl ((if0 _ _).trans (teq ((by decide) : (0 : Int32) = (0 : Int32))).1) (by decide) (by decide) k) ?_
          show Go _ _ _ _ (T21.setTop (mkF m 89 #[rv a1] []))
          refine go_st (fun t k => XS.iconst X21.here hx rfl (hb hby d9_89) k) ?_
          show Go _ _ _ _ (T21.setTop (mkF m 90 #[rv a1] [(.int 0)]))
          subst hPP
          obtain ⟨fs, hr, hrun, hended, hW, hsame⟩ := X21.leave (v := some (.int 0)) (fun h => by rw [Bd.returns] at h; cases h)
          refine ⟨_, _, ?_, hrun, hended, _, _, rfl, ?_, ⟨_, rfl⟩, hW, hsame.mono (by decide) (by decide)⟩
          · exact retN X21 hx (t := .boolean) Bd.returns (by simp) (hb hby d9_90) hr
          · show Q_sends _ _ _ _ _ _ _ _ _ _ _ _ _ _ _ T21.heap _
            rw [e21]
            exact ⟨(0 : Int32), rfl, N21, rfl, (by simp [hn1, hn2, hb22])⟩
        · skip
          rw [hb22] at hr_21
          rw [if_pos rfl] at hr_21
          subst hr_21
          show Go _ _ _ _ (T21.setTop (mkF m 48 #[rv a1] [(.int 1)]))
          refine go_st (fun t k => XS.ifNo X21.here hx rfl (hb hby d9_48) rfl ((if0 _ _).trans (feq ((by decide) : ¬ ((1 : Int32) = (0 : Int32)))).1) k) ?_
          show Go _ _ _ _ (T21.setTop (mkF m 51 #[rv a1] []))
          exact j3 _ _  X21 N21 e21 hb22
    refine go_st (fun t k => XS.aloadN X1.here hx rfl (hb hby d9_17) rfl rfl k) ?_
    show Go _ _ _ _ (T1.setTop (mkF m 18 #[rv a1] [(.ref a1)]))
    obtain ⟨T23, X23, e23, st23⟩ := getF X1 hx hZ hown (host := "") (Or.inl (w70 hw)) Via.refl e1 H1 (g := (mkF m 18 #[rv a1] [(.ref a1)])) rfl rfl (hb hby d9_18)
    refine go_st (fun t k => st23 t k) ?_
    show Go _ _ _ _ (T23.setTop (mkF m 21 #[rv a1] [v2]))
    rcases H11 with ⟨rfl, rfl⟩ | ⟨ca24, cv1_24, cv2_24, cn1_24, cn2_24, rfl, cE24, cF1_24, cF2_24, cO1_24, cO2_24, rfl⟩
    · skip
      show Go _ _ _ _ (T23.setTop (mkF m 21 #[rv a1] [.null]))
      refine go_st (fun t k => XS.ifnullYes X23.here hx rfl (pc0 := 21) (pc' := 34) rfl (hb hby d9_21) rfl (by decide) (by decide) k) ?_
      show Go _ _ _ _ (T23.setTop (mkF m 34 #[rv a1] []))
      exact j2 _ _  X23 N1 e23 rfl
    · skip
      have cR1_24 := OStr.isRef cO1_24
      have cR2_24 := OStr.isRef cO2_24
      show Go _ _ _ _ (T23.setTop (mkF m 21 #[rv a1] [(.ref ca24)]))
      refine go_st (fun t k => XS.ifnullNo X23.here hx rfl (hb hby d9_21) rfl k) ?_
      show Go _ _ _ _ (T23.setTop (mkF m 24 #[rv a1] []))
      refine go_st (fun t k => XS.aloadN X23.here hx rfl (hb hby d9_24) rfl rfl k) ?_
      show Go _ _ _ _ (T23.setTop (mkF m 25 #[rv a1] [(.ref a1)]))
      obtain ⟨T25, X25, e25, st25⟩ := getF X23 hx hZ hown (host := "") (Or.inl (w70 hw)) Via.refl e23 H1 (g := (mkF m 25 #[rv a1] [(.ref a1)])) rfl rfl (hb hby d9_25)
      refine go_st (fun t k => st25 t k) ?_
      show Go _ _ _ _ (T25.setTop (mkF m 28 #[rv a1] [(.ref ca24)]))
      obtain ⟨cq26, kq26, q26a, q26b, q26c⟩ := isOf hZ e25 cE24
      obtain ⟨_, _, ⟨T26, L26, kk26, nn26⟩, -, X26, ⟨Lc26, hQ26, lq26, yq26, zq26⟩, st26⟩ := X25.virtualBack hx (y := (⟨"com/example/credence/credence/Credentials", "blank", "()Z"⟩ : MethodName)) (z := (⟨"com/example/credence/credence/Credentials", "blank", "()Z"⟩ : MethodName)) hown (mvT hZ (w94 hw)) (mvT hZ (w95 hw)) (notFace_of_selects (args := #[]) (mvT hZ (w97 hw))) (mvT hZ (w97 hw)) (mvT hZ (w96 hw)) (by decide) (backOf (W := 0) (rm_blank l Z a0 hw [] ca24 cv1_24 cv2_24 cn1_24 cn2_24 h0 n0 (Nat.le_trans Z0 (Nat.le_refl _)) cF1_24 cF2_24 cR1_24 cR2_24 cO1_24 cO2_24) hZ (w98 hw) (w39 hw) (by decide) (by decide)) q26a q26c (g := (mkF m 28 #[rv a1] [(.ref ca24)])) rfl (by rw [hml]; rfl) (Steps.refl _) (argsL := []) (rest := []) (lenOf pd_1 rfl) rfl (by show 2 * 0 + _ ≤ _; exact Nat.le_of_eq rfl) (hb hby d9_28) (fun _ _ => ⟨rfl, e25, (by decide : 0 + 0 ≤ _), (by decide : 0 + 0 ≤ _)⟩)
      dsimp only [Pt.U, Pt.locs, Pt.cells, Pt.slots] at X26 lq26 yq26 zq26 st26 hQ26
      subst lq26 yq26 zq26
      obtain ⟨h26, e26⟩ : ∃ z, T26.heap = z := ⟨_, rfl⟩
      rw [e26] at hQ26
      obtain ⟨r_26, rfl, N26q, he26, hr_26⟩ := hQ26
      have N26 := Fr.app N1 N26q
      rw [he26] at e26
      refine go_tr st26 ?_
      show Go _ _ _ _ (T26.setTop (mkF m 31 #[rv a1] [(.int r_26)]))
      rcases Bool.eq_false_or_eq_true (cn1_24 || cn2_24) with hb27 | hb27
      · skip
        rw [hb27] at hr_26
        rw [if_neg (by decide)] at hr_26
        subst hr_26
        show Go _ _ _ _ (T26.setTop (mkF m 31 #[rv a1] [(.int 0)]))
        refine go_st (fun t k => XS.ifYes X26.here hx rfl (pc0 := 31) (pc' := 89) rfl (hb hby d9_31) rfl ((if0 _ _).trans (teq ((by decide) : (0 : Int32) = (0 : Int32))).1) (by decide) (by decide) k) ?_
        show Go _ _ _ _ (T26.setTop (mkF m 89 #[rv a1] []))
        refine go_st (fun t k => XS.iconst X26.here hx rfl (hb hby d9_89) k) ?_
        show Go _ _ _ _ (T26.setTop (mkF m 90 #[rv a1] [(.int 0)]))
        subst hPP
        obtain ⟨fs, hr, hrun, hended, hW, hsame⟩ := X26.leave (v := some (.int 0)) (fun h => by rw [Bd.returns] at h; cases h)
        refine ⟨_, _, ?_, hrun, hended, _, _, rfl, ?_, ⟨_, rfl⟩, hW, hsame.mono (by decide) (by decide)⟩
        · exact retN X26 hx (t := .boolean) Bd.returns (by simp) (hb hby d9_90) hr
        · show Q_sends _ _ _ _ _ _ _ _ _ _ _ _ _ _ _ T26.heap _
          rw [e26]
          exact ⟨(0 : Int32), rfl, N26, rfl, (by simp [hn1, hb27])⟩
      · skip
        rw [hb27] at hr_26
        rw [if_pos rfl] at hr_26
        subst hr_26
        show Go _ _ _ _ (T26.setTop (mkF m 31 #[rv a1] [(.int 1)]))
        refine go_st (fun t k => XS.ifNo X26.here hx rfl (hb hby d9_31) rfl ((if0 _ _).trans (feq ((by decide) : ¬ ((1 : Int32) = (0 : Int32)))).1) k) ?_
        show Go _ _ _ _ (T26.setTop (mkF m 34 #[rv a1] []))
        exact j2 _ _  X26 N26 e26 hb27
  refine go_st (fun t k => XS.aloadN X0.here hx rfl (hb hby d9_0) rfl rfl k) ?_
  show Go _ _ _ _ (s₁.setTop (mkF m 1 #[rv a1] [(.ref a1)]))
  obtain ⟨T28, X28, e28, st28⟩ := getF X0 hx hZ hown (host := "") (Or.inl (w68 hw)) Via.refl e0 H0 (g := (mkF m 1 #[rv a1] [(.ref a1)])) rfl rfl (hb hby d9_1)
  refine go_st (fun t k => st28 t k) ?_
  show Go _ _ _ _ (T28.setTop (mkF m 4 #[rv a1] [v1]))
  rcases H10 with ⟨rfl, rfl⟩ | ⟨oa29, ot29, rfl, oF29, rfl⟩ | ⟨oa29, ot29, oc29, os29, rfl, oF29, rfl⟩
  · skip
    show Go _ _ _ _ (T28.setTop (mkF m 4 #[rv a1] [.null]))
    refine go_st (fun t k => XS.ifnullYes X28.here hx rfl (pc0 := 4) (pc' := 17) rfl (hb hby d9_4) rfl (by decide) (by decide) k) ?_
    show Go _ _ _ _ (T28.setTop (mkF m 17 #[rv a1] []))
    exact j1 _ _  X28 N0 e28 rfl
  · skip
    show Go _ _ _ _ (T28.setTop (mkF m 4 #[rv a1] [(.ref oa29)]))
    refine go_st (fun t k => XS.ifnullNo X28.here hx rfl (hb hby d9_4) rfl k) ?_
    show Go _ _ _ _ (T28.setTop (mkF m 7 #[rv a1] []))
    refine go_st (fun t k => XS.aloadN X28.here hx rfl (hb hby d9_7) rfl rfl k) ?_
    show Go _ _ _ _ (T28.setTop (mkF m 8 #[rv a1] [(.ref a1)]))
    obtain ⟨T30, X30, e30, st30⟩ := getF X28 hx hZ hown (host := "") (Or.inl (w68 hw)) Via.refl e28 H0 (g := (mkF m 8 #[rv a1] [(.ref a1)])) rfl rfl (hb hby d9_8)
    refine go_st (fun t k => st30 t k) ?_
    show Go _ _ _ _ (T30.setTop (mkF m 11 #[rv a1] [(.ref oa29)]))
    obtain ⟨cq31, kq31, q31a, q31b, q31c⟩ := isOf hZ e30 oF29.1
    obtain ⟨_, _, ⟨T31, L31, kk31, nn31⟩, -, X31, ⟨Lc31, hQ31, lq31, yq31, zq31⟩, st31⟩ := X30.virtualBack hx (y := (⟨"java/lang/String", "isEmpty", "()Z"⟩ : MethodName)) (z := (⟨"java/lang/String", "isEmpty", "()Z"⟩ : MethodName)) hown (mvT hZ (w86 hw)) (mvT hZ (w87 hw)) (notFace_of_selects (args := #[]) (mvT hZ (w89 hw))) (mvT hZ (w89 hw)) (mvT hZ (w88 hw)) (by decide) (empS (W := 0) hZ hw (kI := 4) (w5 hw) oF29 (by decide) (by decide)) q31a q31c (g := (mkF m 11 #[rv a1] [(.ref oa29)])) rfl (by rw [hml]; rfl) (Steps.refl _) (argsL := []) (rest := []) (lenOf pd_1 rfl) rfl (by show 2 * 0 + _ ≤ _; exact Nat.le_of_eq rfl) (hb hby d9_11) (fun _ _ => ⟨rfl, e30, (by decide : 0 + 0 ≤ _), (by decide : 0 + 0 ≤ _)⟩)
    dsimp only [Pt.U, Pt.locs, Pt.cells, Pt.slots] at X31 lq31 yq31 zq31 st31 hQ31
    subst lq31 yq31 zq31
    obtain ⟨h31, e31⟩ : ∃ z, T31.heap = z := ⟨_, rfl⟩
    rw [e31] at hQ31
    obtain ⟨rfl, rfl, he31⟩ := hQ31
    have N31 := Fr.app N0 (Fr.nil n0)
    rw [he31] at e31
    refine go_tr st31 ?_
    rw [show (if ([] : List Int32).length = 0 then (1 : Int32) else 0) = 1 from if_pos rfl]
    show Go _ _ _ _ (T31.setTop (mkF m 14 #[rv a1] [(.int 1)]))
    refine go_st (fun t k => XS.ifNo X31.here hx rfl (hb hby d9_14) rfl ((if0 _ _).trans (feq ((by decide) : ¬ ((1 : Int32) = (0 : Int32)))).1) k) ?_
    show Go _ _ _ _ (T31.setTop (mkF m 17 #[rv a1] []))
    exact j1 _ _  X31 N31 e31 rfl
  · skip
    show Go _ _ _ _ (T28.setTop (mkF m 4 #[rv a1] [(.ref oa29)]))
    refine go_st (fun t k => XS.ifnullNo X28.here hx rfl (hb hby d9_4) rfl k) ?_
    show Go _ _ _ _ (T28.setTop (mkF m 7 #[rv a1] []))
    refine go_st (fun t k => XS.aloadN X28.here hx rfl (hb hby d9_7) rfl rfl k) ?_
    show Go _ _ _ _ (T28.setTop (mkF m 8 #[rv a1] [(.ref a1)]))
    obtain ⟨T32, X32, e32, st32⟩ := getF X28 hx hZ hown (host := "") (Or.inl (w68 hw)) Via.refl e28 H0 (g := (mkF m 8 #[rv a1] [(.ref a1)])) rfl rfl (hb hby d9_8)
    refine go_st (fun t k => st32 t k) ?_
    show Go _ _ _ _ (T32.setTop (mkF m 11 #[rv a1] [(.ref oa29)]))
    obtain ⟨cq33, kq33, q33a, q33b, q33c⟩ := isOf hZ e32 oF29.1
    obtain ⟨_, _, ⟨T33, L33, kk33, nn33⟩, -, X33, ⟨Lc33, hQ33, lq33, yq33, zq33⟩, st33⟩ := X32.virtualBack hx (y := (⟨"java/lang/String", "isEmpty", "()Z"⟩ : MethodName)) (z := (⟨"java/lang/String", "isEmpty", "()Z"⟩ : MethodName)) hown (mvT hZ (w86 hw)) (mvT hZ (w87 hw)) (notFace_of_selects (args := #[]) (mvT hZ (w89 hw))) (mvT hZ (w89 hw)) (mvT hZ (w88 hw)) (by decide) (empS (W := 0) hZ hw (kI := 4) (w5 hw) oF29 (by decide) (by decide)) q33a q33c (g := (mkF m 11 #[rv a1] [(.ref oa29)])) rfl (by rw [hml]; rfl) (Steps.refl _) (argsL := []) (rest := []) (lenOf pd_1 rfl) rfl (by show 2 * 0 + _ ≤ _; exact Nat.le_of_eq rfl) (hb hby d9_11) (fun _ _ => ⟨rfl, e32, (by decide : 0 + 0 ≤ _), (by decide : 0 + 0 ≤ _)⟩)
    dsimp only [Pt.U, Pt.locs, Pt.cells, Pt.slots] at X33 lq33 yq33 zq33 st33 hQ33
    subst lq33 yq33 zq33
    obtain ⟨h33, e33⟩ : ∃ z, T33.heap = z := ⟨_, rfl⟩
    rw [e33] at hQ33
    obtain ⟨rfl, rfl, he33⟩ := hQ33
    have N33 := Fr.app N0 (Fr.nil n0)
    rw [he33] at e33
    refine go_tr st33 ?_
    rw [show (if ((oc29 :: os29) : List Int32).length = 0 then (1 : Int32) else 0) = 0 from if_neg (by simp)]
    show Go _ _ _ _ (T33.setTop (mkF m 14 #[rv a1] [(.int 0)]))
    refine go_st (fun t k => XS.ifYes X33.here hx rfl (pc0 := 14) (pc' := 89) rfl (hb hby d9_14) rfl ((if0 _ _).trans (teq ((by decide) : (0 : Int32) = (0 : Int32))).1) (by decide) (by decide) k) ?_
    show Go _ _ _ _ (T33.setTop (mkF m 89 #[rv a1] []))
    refine go_st (fun t k => XS.iconst X33.here hx rfl (hb hby d9_89) k) ?_
    show Go _ _ _ _ (T33.setTop (mkF m 90 #[rv a1] [(.int 0)]))
    subst hPP
    obtain ⟨fs, hr, hrun, hended, hW, hsame⟩ := X33.leave (v := some (.int 0)) (fun h => by rw [Bd.returns] at h; cases h)
    refine ⟨_, _, ?_, hrun, hended, _, _, rfl, ?_, ⟨_, rfl⟩, hW, hsame.mono (by decide) (by decide)⟩
    · exact retN X33 hx (t := .boolean) Bd.returns (by simp) (hb hby d9_90) hr
    · show Q_sends _ _ _ _ _ _ _ _ _ _ _ _ _ _ _ T33.heap _
      rw [e33]
      exact ⟨(0 : Int32), rfl, N33, rfl, (by simp)⟩
def Q_law (Z : State) (p0 : Int32) (p1 : Int32) (p2 : Int32) (p3 : Int32) (p4 : Int32) (p5 : Int32) (G1 : Int32) (h0 : Heap) (n0 : Nat) (vR : Option Value) (h : Heap) (L : List Loc) : Prop := vR = some (.int 1) ∧ Fr n0 L ∧ Keep h0 h []
theorem ef_law (m : MethodId) (x0 : Int32) (x1 : Int32) (x2 : Int32) (x3 : Int32) (x4 : Int32) (x5 : Int32) : entryFrame m #[(.int x0), (.int x1), (.int x2), (.int x3), (.int x4), (.int x5)] maxLocals = mkF m 0 #[.val (.int x0), .val (.int x1), .val (.int x2), .val (.int x3), .val (.int x4), .val (.int x5), .unset, .unset, .unset, .unset, .unset, .unset, .unset, .unset, .unset] [] := by first | (simp [entryFrame, mkF, argsToLocals, Value.category, maxLocals]; done) | rfl
set_option maxRecDepth 65536 in
set_option maxHeartbeats 40000000 in
theorem rm_law (l : Launch) (Z : State) (a0 : Array Value) (hw : ∀ d ∈ tables_1, d.before a0 Z = true) (ws : List Jvm.Cond) (p0 : Int32) (p1 : Int32) (p2 : Int32) (p3 : Int32) (p4 : Int32) (p5 : Int32) (G1 : Int32) (h0 : Heap) (n0 : Nat) (Z0 : n0 ≤ h0.size) (CS : Sta Z Z.heap "java/lang/String" "COMPACT_STRINGS" "Z" (.int G1)) (CSn : ¬ (G1 = (0 : Int32))) (O0 : Old Z n0 h0) :
    MetFree l x (head1 (Jvm.Cond.code x code maxLocals ret :: ws) room_1) (fun a U => a = #[(.int p0), (.int p1), (.int p2), (.int p3), (.int p4), (.int p5)] ∧ Z.Warmed39 U.vm ∧ U.heap = h0 ∧ CHv Z consts_1 U.vm h0) (fun _ _ _ _ _ => True) (fun _ U o U' => ∃ v L, o = .returned v ∧ Q_law Z p0 p1 p2 p3 p4 p5 G1 h0 n0 v U'.heap L ∧ CHr Z consts_1 U.vm U.heap U'.vm U'.heap ∧ ReturnedEndW U o U' L room_1.cells room_1.slots) := by
  refine MetFree.of_bodySF (plainFor_of_name pn_com_example_credence_credence_LogonSendsNothingPinLaw) hisR ?_
  intro p e s m args below meth c s₁ Bd hml0 hP hK
  obtain ⟨rfl, hZs, hh, H0⟩ := hP
  have hx := Bd.exec
  have hby := Bd.bytes
  have hml : c.maxLocals = 15 := hml0
  have hZ : Z.Warmed39 (s.setVm s.vm).vm := hZs
  have hown : (s.setVm s.vm).vm.findClass "com/example/credence/credence/LogonSendsNothingPinLaw" = some m.cls := findClass_of_methodNamed Bd.named
  have hnm := (name_of_methodNamed Bd.named Bd.method).1
  have X0 : Stand p l e room_1 (s.setVm s.vm) m #[(.int p0), (.int p1), (.int p2), (.int p3), (.int p4), (.int p5)] below meth c s₁ [] 0 0 := Stand.of_body Bd
  have e0 : s₁.heap = h0 := by rw [← hh, Bd.state]; rfl
  have N0 := Fr.nil n0
  have hS0 : s.Since s.vm s.heap.size := (State.WarmedH.refl s).since _
  have hk0 : s.heap.size ≤ h0.size := Nat.le_of_eq (congrArg Array.size hh)
  have C0 : CHr Z consts_1 s.vm h0 s.vm h0 := CHr.refl H0
  refine go_st (fun t k => castTop (ef_law m p0 p1 p2 p3 p4 p5) k) ?_
  show Go _ _ _ _ (s₁.setTop (mkF m 0 #[iv p0, iv p1, iv p2, iv p3, iv p4, iv p5, .unset, .unset, .unset, .unset, .unset, .unset, .unset, .unset, .unset] []))
  refine go_st (fun t k => XS.iloadN X0.here hx rfl (hb hby at_0) rfl k) ?_
  show Go _ _ _ _ (s₁.setTop (mkF m 1 #[iv p0, iv p1, iv p2, iv p3, iv p4, iv p5, .unset, .unset, .unset, .unset, .unset, .unset, .unset, .unset, .unset] [(.int p0)]))
  obtain ⟨_, _, ⟨T1, L1, kk1, nn1⟩, -, X1, hs21, hg1, ⟨Lc1, hQ1, lq1, yq1, zq1, hC1⟩, st1⟩ := callSS X0 hx (y := (⟨"com/example/credence/credence/LogonSendsNothingPinLaw", "str", "(I)Ljava/lang/String;"⟩ : MethodName)) hown (mvT hZ (w0 hw)) (mvT hZ (w1 hw)) (mvT hZ (w2 hw)) (mvT hZ (w3 hw)) (by decide) (backOfSH (vm0 := s.vm) (W := 0) (rm_str l Z a0 hw [] p0 G1 h0 n0 (Nat.le_trans Z0 (Nat.le_refl _)) CS CSn O0) hZ (w3 hw) (w2 hw) (by decide) (by decide) (hEL hw) C0.1) (g := (mkF m 1 #[iv p0, iv p1, iv p2, iv p3, iv p4, iv p5, .unset, .unset, .unset, .unset, .unset, .unset, .unset, .unset, .unset] [(.int p0)])) rfl (by rw [hml]; rfl) (argsL := [(.int p0)]) (rest := []) (lenOf pd_5 rfl) rfl (by show 2 * 0 + _ ≤ _; exact Nat.le_of_eq rfl) (hb hby at_1) (fun _ _ => ⟨rfl, e0, (by decide : 0 + 3 ≤ _), (by decide : 0 + 8 ≤ _)⟩)
  dsimp only [Pt.U, Pt.locs, Pt.cells, Pt.slots] at X1 hs21 hg1 lq1 yq1 zq1 st1 hQ1 hC1
  subst lq1 yq1 zq1
  rw [e0] at hg1
  obtain ⟨X1, hS1, hZ1, hown1⟩ := rebS (vm0 := s.vm) hS0 (Nat.le_trans hk0 (Nat.le_refl _)) X1 hs21 hg1 hZ hown
  obtain ⟨h1, e1⟩ : ∃ z, T1.heap = z := ⟨_, rfl⟩
  rw [e1] at hQ1 hg1 hC1 hS1
  obtain ⟨v_1, ne_1, rfl, N1q, K1, hv_1, hne_1, p1_2⟩ := hQ1
  have N1 := Fr.app N0 N1q
  have C2 : CHr Z consts_1 s.vm h0 T1.vm h1 := CHr.trans C0 hC1
  refine go_tr st1 ?_
  show Go _ _ _ _ (T1.setTop (mkF m 4 #[iv p0, iv p1, iv p2, iv p3, iv p4, iv p5, .unset, .unset, .unset, .unset, .unset, .unset, .unset, .unset, .unset] [v_1]))
  refine go_st (fun t k => XS.astore X1.here hx rfl (hb hby at_4) rfl hv_1 (l' := #[iv p0, iv p1, iv p2, iv p3, iv p4, iv p5, .val v_1, .unset, .unset, .unset, .unset, .unset, .unset, .unset, .unset]) (XS.store1 rfl (Or.inl rfl) (ref_cat hv_1)) k) ?_
  show Go _ _ _ _ (T1.setTop (mkF m 6 #[iv p0, iv p1, iv p2, iv p3, iv p4, iv p5, .val v_1, .unset, .unset, .unset, .unset, .unset, .unset, .unset, .unset] []))
  refine go_st (fun t k => XS.iloadN X1.here hx rfl (hb hby at_6) rfl k) ?_
  show Go _ _ _ _ (T1.setTop (mkF m 7 #[iv p0, iv p1, iv p2, iv p3, iv p4, iv p5, .val v_1, .unset, .unset, .unset, .unset, .unset, .unset, .unset, .unset] [(.int p1)]))
  have oe3 : Old Z n0 h1 := (Old.keep O0 K1 all0)
  obtain ⟨_, _, ⟨T4, L4, kk4, nn4⟩, -, X4, hs24, hg4, ⟨Lc4, hQ4, lq4, yq4, zq4, hC4⟩, st4⟩ := callSS X1 hx (y := (⟨"com/example/credence/credence/LogonSendsNothingPinLaw", "str", "(I)Ljava/lang/String;"⟩ : MethodName)) hown1 (mvT hZ1 (w0 hw)) (mvT hZ1 (w1 hw)) (mvT hZ1 (w2 hw)) (mvT hZ1 (w3 hw)) (by decide) (backOfSH (vm0 := T1.vm) (W := 0) (rm_str l Z a0 hw [] p1 G1 h1 n0 (Nat.le_trans Z0 K1.1) CS CSn oe3) hZ1 (w3 hw) (w2 hw) (by decide) (by decide) (hEL hw) C2.1) (g := (mkF m 7 #[iv p0, iv p1, iv p2, iv p3, iv p4, iv p5, .val v_1, .unset, .unset, .unset, .unset, .unset, .unset, .unset, .unset] [(.int p1)])) rfl (by rw [hml]; rfl) (argsL := [(.int p1)]) (rest := []) (lenOf pd_5 rfl) rfl (by show 2 * 0 + _ ≤ _; exact Nat.le_of_eq rfl) (hb hby at_7) (fun _ _ => ⟨rfl, e1, (by decide : 3 + 3 ≤ _), (by decide : 8 + 8 ≤ _)⟩)
  dsimp only [Pt.U, Pt.locs, Pt.cells, Pt.slots] at X4 hs24 hg4 lq4 yq4 zq4 st4 hQ4 hC4
  subst lq4 yq4 zq4
  rw [e1] at hg4
  obtain ⟨X4, hS4, hZ4, hown4⟩ := rebS (vm0 := T1.vm) hS1 (Nat.le_trans (Nat.le_refl _) (Nat.le_refl _)) X4 hs24 hg4 hZ1 hown1
  obtain ⟨h4, e4⟩ : ∃ z, T4.heap = z := ⟨_, rfl⟩
  rw [e4] at hQ4 hg4 hC4 hS4
  obtain ⟨v_4, ne_4, rfl, N4q, K4, hv_4, hne_4, p4_2⟩ := hQ4
  have N4 := Fr.app N1 N4q
  have C5 : CHr Z consts_1 s.vm h0 T4.vm h4 := CHr.trans C2 hC4
  refine go_tr st4 ?_
  show Go _ _ _ _ (T4.setTop (mkF m 10 #[iv p0, iv p1, iv p2, iv p3, iv p4, iv p5, .val v_1, .unset, .unset, .unset, .unset, .unset, .unset, .unset, .unset] [v_4]))
  refine go_st (fun t k => XS.astore X4.here hx rfl (hb hby at_10) rfl hv_4 (l' := #[iv p0, iv p1, iv p2, iv p3, iv p4, iv p5, .val v_1, .val v_4, .unset, .unset, .unset, .unset, .unset, .unset, .unset]) (XS.store1 rfl (Or.inl rfl) (ref_cat hv_4)) k) ?_
  show Go _ _ _ _ (T4.setTop (mkF m 12 #[iv p0, iv p1, iv p2, iv p3, iv p4, iv p5, .val v_1, .val v_4, .unset, .unset, .unset, .unset, .unset, .unset, .unset] []))
  refine go_st (fun t k => XS.iloadN X4.here hx rfl (hb hby at_12) rfl k) ?_
  show Go _ _ _ _ (T4.setTop (mkF m 13 #[iv p0, iv p1, iv p2, iv p3, iv p4, iv p5, .val v_1, .val v_4, .unset, .unset, .unset, .unset, .unset, .unset, .unset] [(.int p2)]))
  have oe6 : Old Z n0 h4 := (Old.keep oe3 K4 all0)
  have sz7 : h0.size ≤ h4.size := (Nat.le_trans K1.1 K4.1)
  obtain ⟨_, _, ⟨T8, L8, kk8, nn8⟩, -, X8, hs28, hg8, ⟨Lc8, hQ8, lq8, yq8, zq8, hC8⟩, st8⟩ := callSS X4 hx (y := (⟨"com/example/credence/credence/LogonSendsNothingPinLaw", "cred", "(I)Lcom/example/credence/credence/Credentials;"⟩ : MethodName)) hown4 (mvT hZ4 (w34 hw)) (mvT hZ4 (w35 hw)) (mvT hZ4 (w2 hw)) (mvT hZ4 (w36 hw)) (by decide) (backOfSH (vm0 := T4.vm) (W := 0) (rm_mkcred l Z a0 hw [] p2 G1 h4 n0 (Nat.le_trans Z0 sz7) CS CSn oe6) hZ4 (w36 hw) (w2 hw) (by decide) (by decide) (hEL hw) C5.1) (g := (mkF m 13 #[iv p0, iv p1, iv p2, iv p3, iv p4, iv p5, .val v_1, .val v_4, .unset, .unset, .unset, .unset, .unset, .unset, .unset] [(.int p2)])) rfl (by rw [hml]; rfl) (argsL := [(.int p2)]) (rest := []) (lenOf pd_7 rfl) rfl (by show 2 * 0 + _ ≤ _; exact Nat.le_of_eq rfl) (hb hby at_13) (fun _ _ => ⟨rfl, e4, (by decide : 6 + 7 ≤ _), (by decide : 16 + 18 ≤ _)⟩)
  dsimp only [Pt.U, Pt.locs, Pt.cells, Pt.slots] at X8 hs28 hg8 lq8 yq8 zq8 st8 hQ8 hC8
  subst lq8 yq8 zq8
  rw [e4] at hg8
  obtain ⟨X8, hS8, hZ8, hown8⟩ := rebS (vm0 := T4.vm) hS4 (Nat.le_trans (Nat.le_refl _) (Nat.le_refl _)) X8 hs28 hg8 hZ4 hown4
  obtain ⟨h8, e8⟩ : ∃ z, T8.heap = z := ⟨_, rfl⟩
  rw [e8] at hQ8 hg8 hC8 hS8
  obtain ⟨v_8, ne_8, rfl, N8q, K8, hv_8, hne_8, p8_2⟩ := hQ8
  have N8 := Fr.app N4 N8q
  have C9 : CHr Z consts_1 s.vm h0 T8.vm h8 := CHr.trans C5 hC8
  refine go_tr st8 ?_
  show Go _ _ _ _ (T8.setTop (mkF m 16 #[iv p0, iv p1, iv p2, iv p3, iv p4, iv p5, .val v_1, .val v_4, .unset, .unset, .unset, .unset, .unset, .unset, .unset] [v_8]))
  refine go_st (fun t k => XS.astore X8.here hx rfl (hb hby at_16) rfl hv_8 (l' := #[iv p0, iv p1, iv p2, iv p3, iv p4, iv p5, .val v_1, .val v_4, .val v_8, .unset, .unset, .unset, .unset, .unset, .unset]) (XS.store1 rfl (Or.inl rfl) (ref_cat hv_8)) k) ?_
  show Go _ _ _ _ (T8.setTop (mkF m 18 #[iv p0, iv p1, iv p2, iv p3, iv p4, iv p5, .val v_1, .val v_4, .val v_8, .unset, .unset, .unset, .unset, .unset, .unset] []))
  refine go_st (fun t k => XS.iloadN X8.here hx rfl (hb hby at_18) rfl k) ?_
  show Go _ _ _ _ (T8.setTop (mkF m 19 #[iv p0, iv p1, iv p2, iv p3, iv p4, iv p5, .val v_1, .val v_4, .val v_8, .unset, .unset, .unset, .unset, .unset, .unset] [(.int p3)]))
  have oe10 : Old Z n0 h8 := (Old.keep oe6 K8 all0)
  have sz11 : h0.size ≤ h8.size := (Nat.le_trans sz7 K8.1)
  obtain ⟨_, _, ⟨T12, L12, kk12, nn12⟩, -, X12, hs212, hg12, ⟨Lc12, hQ12, lq12, yq12, zq12, hC12⟩, st12⟩ := callSS X8 hx (y := (⟨"com/example/credence/credence/LogonSendsNothingPinLaw", "cred", "(I)Lcom/example/credence/credence/Credentials;"⟩ : MethodName)) hown8 (mvT hZ8 (w34 hw)) (mvT hZ8 (w35 hw)) (mvT hZ8 (w2 hw)) (mvT hZ8 (w36 hw)) (by decide) (backOfSH (vm0 := T8.vm) (W := 0) (rm_mkcred l Z a0 hw [] p3 G1 h8 n0 (Nat.le_trans Z0 sz11) CS CSn oe10) hZ8 (w36 hw) (w2 hw) (by decide) (by decide) (hEL hw) C9.1) (g := (mkF m 19 #[iv p0, iv p1, iv p2, iv p3, iv p4, iv p5, .val v_1, .val v_4, .val v_8, .unset, .unset, .unset, .unset, .unset, .unset] [(.int p3)])) rfl (by rw [hml]; rfl) (argsL := [(.int p3)]) (rest := []) (lenOf pd_7 rfl) rfl (by show 2 * 0 + _ ≤ _; exact Nat.le_of_eq rfl) (hb hby at_19) (fun _ _ => ⟨rfl, e8, (by decide : 13 + 7 ≤ _), (by decide : 34 + 18 ≤ _)⟩)
  dsimp only [Pt.U, Pt.locs, Pt.cells, Pt.slots] at X12 hs212 hg12 lq12 yq12 zq12 st12 hQ12 hC12
  subst lq12 yq12 zq12
  rw [e8] at hg12
  obtain ⟨X12, hS12, hZ12, hown12⟩ := rebS (vm0 := T8.vm) hS8 (Nat.le_trans (Nat.le_refl _) (Nat.le_refl _)) X12 hs212 hg12 hZ8 hown8
  obtain ⟨h12, e12⟩ : ∃ z, T12.heap = z := ⟨_, rfl⟩
  rw [e12] at hQ12 hg12 hC12 hS12
  obtain ⟨v_12, ne_12, rfl, N12q, K12, hv_12, hne_12, p12_2⟩ := hQ12
  have N12 := Fr.app N8 N12q
  have C13 : CHr Z consts_1 s.vm h0 T12.vm h12 := CHr.trans C9 hC12
  refine go_tr st12 ?_
  show Go _ _ _ _ (T12.setTop (mkF m 22 #[iv p0, iv p1, iv p2, iv p3, iv p4, iv p5, .val v_1, .val v_4, .val v_8, .unset, .unset, .unset, .unset, .unset, .unset] [v_12]))
  refine go_st (fun t k => XS.astore X12.here hx rfl (hb hby at_22) rfl hv_12 (l' := #[iv p0, iv p1, iv p2, iv p3, iv p4, iv p5, .val v_1, .val v_4, .val v_8, .val v_12, .unset, .unset, .unset, .unset, .unset]) (XS.store1 rfl (Or.inl rfl) (ref_cat hv_12)) k) ?_
  show Go _ _ _ _ (T12.setTop (mkF m 24 #[iv p0, iv p1, iv p2, iv p3, iv p4, iv p5, .val v_1, .val v_4, .val v_8, .val v_12, .unset, .unset, .unset, .unset, .unset] []))
  refine go_st (fun t k => XS.iload X12.here hx rfl (hb hby at_24) rfl k) ?_
  show Go _ _ _ _ (T12.setTop (mkF m 26 #[iv p0, iv p1, iv p2, iv p3, iv p4, iv p5, .val v_1, .val v_4, .val v_8, .val v_12, .unset, .unset, .unset, .unset, .unset] [(.int p4)]))
  have oe14 : Old Z n0 h12 := (Old.keep oe10 K12 all0)
  have sz15 : h0.size ≤ h12.size := (Nat.le_trans sz11 K12.1)
  obtain ⟨_, _, ⟨T16, L16, kk16, nn16⟩, -, X16, hs216, hg16, ⟨Lc16, hQ16, lq16, yq16, zq16, hC16⟩, st16⟩ := callSS X12 hx (y := (⟨"com/example/credence/credence/LogonSendsNothingPinLaw", "str", "(I)Ljava/lang/String;"⟩ : MethodName)) hown12 (mvT hZ12 (w0 hw)) (mvT hZ12 (w1 hw)) (mvT hZ12 (w2 hw)) (mvT hZ12 (w3 hw)) (by decide) (backOfSH (vm0 := T12.vm) (W := 0) (rm_str l Z a0 hw [] p4 G1 h12 n0 (Nat.le_trans Z0 sz15) CS CSn oe14) hZ12 (w3 hw) (w2 hw) (by decide) (by decide) (hEL hw) C13.1) (g := (mkF m 26 #[iv p0, iv p1, iv p2, iv p3, iv p4, iv p5, .val v_1, .val v_4, .val v_8, .val v_12, .unset, .unset, .unset, .unset, .unset] [(.int p4)])) rfl (by rw [hml]; rfl) (argsL := [(.int p4)]) (rest := []) (lenOf pd_5 rfl) rfl (by show 2 * 0 + _ ≤ _; exact Nat.le_of_eq rfl) (hb hby at_26) (fun _ _ => ⟨rfl, e12, (by decide : 20 + 3 ≤ _), (by decide : 52 + 8 ≤ _)⟩)
  dsimp only [Pt.U, Pt.locs, Pt.cells, Pt.slots] at X16 hs216 hg16 lq16 yq16 zq16 st16 hQ16 hC16
  subst lq16 yq16 zq16
  rw [e12] at hg16
  obtain ⟨X16, hS16, hZ16, hown16⟩ := rebS (vm0 := T12.vm) hS12 (Nat.le_trans (Nat.le_refl _) (Nat.le_refl _)) X16 hs216 hg16 hZ12 hown12
  obtain ⟨h16, e16⟩ : ∃ z, T16.heap = z := ⟨_, rfl⟩
  rw [e16] at hQ16 hg16 hC16 hS16
  obtain ⟨v_16, ne_16, rfl, N16q, K16, hv_16, hne_16, p16_2⟩ := hQ16
  have N16 := Fr.app N12 N16q
  have C17 : CHr Z consts_1 s.vm h0 T16.vm h16 := CHr.trans C13 hC16
  refine go_tr st16 ?_
  show Go _ _ _ _ (T16.setTop (mkF m 29 #[iv p0, iv p1, iv p2, iv p3, iv p4, iv p5, .val v_1, .val v_4, .val v_8, .val v_12, .unset, .unset, .unset, .unset, .unset] [v_16]))
  refine go_st (fun t k => XS.astore X16.here hx rfl (hb hby at_29) rfl hv_16 (l' := #[iv p0, iv p1, iv p2, iv p3, iv p4, iv p5, .val v_1, .val v_4, .val v_8, .val v_12, .val v_16, .unset, .unset, .unset, .unset]) (XS.store1 rfl (Or.inl rfl) (ref_cat hv_16)) k) ?_
  show Go _ _ _ _ (T16.setTop (mkF m 31 #[iv p0, iv p1, iv p2, iv p3, iv p4, iv p5, .val v_1, .val v_4, .val v_8, .val v_12, .val v_16, .unset, .unset, .unset, .unset] []))
  refine go_st (fun t k => XS.iload X16.here hx rfl (hb hby at_31) rfl k) ?_
  show Go _ _ _ _ (T16.setTop (mkF m 33 #[iv p0, iv p1, iv p2, iv p3, iv p4, iv p5, .val v_1, .val v_4, .val v_8, .val v_12, .val v_16, .unset, .unset, .unset, .unset] [(.int p5)]))
  have oe18 : Old Z n0 h16 := (Old.keep oe14 K16 all0)
  have sz19 : h0.size ≤ h16.size := (Nat.le_trans sz15 K16.1)
  obtain ⟨_, _, ⟨T20, L20, kk20, nn20⟩, -, X20, hs220, hg20, ⟨Lc20, hQ20, lq20, yq20, zq20, hC20⟩, st20⟩ := callSS X16 hx (y := (⟨"com/example/credence/credence/LogonSendsNothingPinLaw", "str", "(I)Ljava/lang/String;"⟩ : MethodName)) hown16 (mvT hZ16 (w0 hw)) (mvT hZ16 (w1 hw)) (mvT hZ16 (w2 hw)) (mvT hZ16 (w3 hw)) (by decide) (backOfSH (vm0 := T16.vm) (W := 0) (rm_str l Z a0 hw [] p5 G1 h16 n0 (Nat.le_trans Z0 sz19) CS CSn oe18) hZ16 (w3 hw) (w2 hw) (by decide) (by decide) (hEL hw) C17.1) (g := (mkF m 33 #[iv p0, iv p1, iv p2, iv p3, iv p4, iv p5, .val v_1, .val v_4, .val v_8, .val v_12, .val v_16, .unset, .unset, .unset, .unset] [(.int p5)])) rfl (by rw [hml]; rfl) (argsL := [(.int p5)]) (rest := []) (lenOf pd_5 rfl) rfl (by show 2 * 0 + _ ≤ _; exact Nat.le_of_eq rfl) (hb hby at_33) (fun _ _ => ⟨rfl, e16, (by decide : 23 + 3 ≤ _), (by decide : 60 + 8 ≤ _)⟩)
  dsimp only [Pt.U, Pt.locs, Pt.cells, Pt.slots] at X20 hs220 hg20 lq20 yq20 zq20 st20 hQ20 hC20
  subst lq20 yq20 zq20
  rw [e16] at hg20
  obtain ⟨X20, hS20, hZ20, hown20⟩ := rebS (vm0 := T16.vm) hS16 (Nat.le_trans (Nat.le_refl _) (Nat.le_refl _)) X20 hs220 hg20 hZ16 hown16
  obtain ⟨h20, e20⟩ : ∃ z, T20.heap = z := ⟨_, rfl⟩
  rw [e20] at hQ20 hg20 hC20 hS20
  obtain ⟨v_20, ne_20, rfl, N20q, K20, hv_20, hne_20, p20_2⟩ := hQ20
  have N20 := Fr.app N16 N20q
  have C21 : CHr Z consts_1 s.vm h0 T20.vm h20 := CHr.trans C17 hC20
  refine go_tr st20 ?_
  show Go _ _ _ _ (T20.setTop (mkF m 36 #[iv p0, iv p1, iv p2, iv p3, iv p4, iv p5, .val v_1, .val v_4, .val v_8, .val v_12, .val v_16, .unset, .unset, .unset, .unset] [v_20]))
  refine go_st (fun t k => XS.astore X20.here hx rfl (hb hby at_36) rfl hv_20 (l' := #[iv p0, iv p1, iv p2, iv p3, iv p4, iv p5, .val v_1, .val v_4, .val v_8, .val v_12, .val v_16, .val v_20, .unset, .unset, .unset]) (XS.store1 rfl (Or.inl rfl) (ref_cat hv_20)) k) ?_
  show Go _ _ _ _ (T20.setTop (mkF m 38 #[iv p0, iv p1, iv p2, iv p3, iv p4, iv p5, .val v_1, .val v_4, .val v_8, .val v_12, .val v_16, .val v_20, .unset, .unset, .unset] []))
  obtain ⟨T22, h22, X22, e22, E22, A22, D22, -, st22⟩ := newO X20 hx hZ20 hown20 (w59 hw) (w60 hw) (w61 hw) e20 (g := (mkF m 38 #[iv p0, iv p1, iv p2, iv p3, iv p4, iv p5, .val v_1, .val v_4, .val v_8, .val v_12, .val v_16, .val v_20, .unset, .unset, .unset] [])) rfl (hb hby at_38) (by decide) (by decide)
  obtain ⟨b22, gq22⟩ : ∃ z, z = h20.size := ⟨_, rfl⟩
  rw [← gq22] at A22 D22 st22
  have C23 : CHr Z consts_1 s.vm h0 T20.vm h22 := CHr.trans C21 (CHr.ext E22 C21.1)
  have f24 : Fld Z h22 b22 "com/example/credence/credence/Logon" "namespace" "Ljava/lang/String;" .null := D22 (Or.inr (w67 hw)) (ty := (.object "java/lang/String")) (by decide)
  have f25 : Fld Z h22 b22 "com/example/credence/credence/Logon" "trustedCredential" "Ljava/lang/String;" .null := D22 (Or.inr (w69 hw)) (ty := (.object "java/lang/String")) (by decide)
  have f26 : Fld Z h22 b22 "com/example/credence/credence/Logon" "credentials" "Lcom/example/credence/credence/Credentials;" .null := D22 (Or.inr (w71 hw)) (ty := (.object "com/example/credence/credence/Credentials")) (by decide)
  have f27 : Fld Z h22 b22 "com/example/credence/credence/Logon" "form" "Lcom/example/credence/credence/Credentials;" .null := D22 (Or.inr (w73 hw)) (ty := (.object "com/example/credence/credence/Credentials")) (by decide)
  have f28 : Fld Z h22 b22 "com/example/credence/credence/Logon" "token" "Ljava/lang/String;" .null := D22 (Or.inr (w75 hw)) (ty := (.object "java/lang/String")) (by decide)
  have f29 : Fld Z h22 b22 "com/example/credence/credence/Logon" "trusted" "Ljava/lang/String;" .null := D22 (Or.inr (w77 hw)) (ty := (.object "java/lang/String")) (by decide)
  refine go_st (fun t k => st22 t k) ?_
  show Go _ _ _ _ (T22.setTop (mkF m 41 #[iv p0, iv p1, iv p2, iv p3, iv p4, iv p5, .val v_1, .val v_4, .val v_8, .val v_12, .val v_16, .val v_20, .unset, .unset, .unset] [(.ref b22)]))
  refine go_st (fun t k => XS.dup X22.here hx rfl (hb hby at_41) rfl rfl k) ?_
  show Go _ _ _ _ (T22.setTop (mkF m 42 #[iv p0, iv p1, iv p2, iv p3, iv p4, iv p5, .val v_1, .val v_4, .val v_8, .val v_12, .val v_16, .val v_20, .unset, .unset, .unset] [(.ref b22), (.ref b22)]))
  refine go_st (fun t k => XS.aload X22.here hx rfl (hb hby at_42) rfl hv_1 k) ?_
  show Go _ _ _ _ (T22.setTop (mkF m 44 #[iv p0, iv p1, iv p2, iv p3, iv p4, iv p5, .val v_1, .val v_4, .val v_8, .val v_12, .val v_16, .val v_20, .unset, .unset, .unset] [v_1, (.ref b22), (.ref b22)]))
  refine go_st (fun t k => XS.aload X22.here hx rfl (hb hby at_44) rfl hv_4 k) ?_
  show Go _ _ _ _ (T22.setTop (mkF m 46 #[iv p0, iv p1, iv p2, iv p3, iv p4, iv p5, .val v_1, .val v_4, .val v_8, .val v_12, .val v_16, .val v_20, .unset, .unset, .unset] [v_4, v_1, (.ref b22), (.ref b22)]))
  refine go_st (fun t k => XS.aload X22.here hx rfl (hb hby at_46) rfl hv_8 k) ?_
  show Go _ _ _ _ (T22.setTop (mkF m 48 #[iv p0, iv p1, iv p2, iv p3, iv p4, iv p5, .val v_1, .val v_4, .val v_8, .val v_12, .val v_16, .val v_20, .unset, .unset, .unset] [v_8, v_4, v_1, (.ref b22), (.ref b22)]))
  refine go_st (fun t k => XS.aload X22.here hx rfl (hb hby at_48) rfl hv_12 k) ?_
  show Go _ _ _ _ (T22.setTop (mkF m 50 #[iv p0, iv p1, iv p2, iv p3, iv p4, iv p5, .val v_1, .val v_4, .val v_8, .val v_12, .val v_16, .val v_20, .unset, .unset, .unset] [v_12, v_8, v_4, v_1, (.ref b22), (.ref b22)]))
  refine go_st (fun t k => XS.aload X22.here hx rfl (hb hby at_50) rfl hv_16 k) ?_
  show Go _ _ _ _ (T22.setTop (mkF m 52 #[iv p0, iv p1, iv p2, iv p3, iv p4, iv p5, .val v_1, .val v_4, .val v_8, .val v_12, .val v_16, .val v_20, .unset, .unset, .unset] [v_16, v_12, v_8, v_4, v_1, (.ref b22), (.ref b22)]))
  refine go_st (fun t k => XS.aload X22.here hx rfl (hb hby at_52) rfl hv_20 k) ?_
  show Go _ _ _ _ (T22.setTop (mkF m 54 #[iv p0, iv p1, iv p2, iv p3, iv p4, iv p5, .val v_1, .val v_4, .val v_8, .val v_12, .val v_16, .val v_20, .unset, .unset, .unset] [v_20, v_16, v_12, v_8, v_4, v_1, (.ref b22), (.ref b22)]))
  have sz30 : h0.size ≤ h20.size := (Nat.le_trans sz19 K20.1)
  have g_b22 : n0 ≤ b22 := Nat.le_trans (Nat.le_trans Z0 sz30) (Nat.le_of_eq gq22.symm)
  have sz31 : h0.size ≤ h22.size := (Nat.le_trans sz30 E22.1)
  obtain ⟨_, _, ⟨T32, L32, kk32, nn32⟩, -, X32, ⟨Lc32, hQ32, lq32, yq32, zq32⟩, st32⟩ := X22.specialBack hx (y := (⟨"com/example/credence/credence/Logon", "<init>", "(Ljava/lang/String;Ljava/lang/String;Lcom/example/credence/credence/Credentials;Lcom/example/credence/credence/Credentials;Ljava/lang/String;Ljava/lang/String;)V"⟩ : MethodName)) rfl hown20 (mvT hZ20 (w62 hw)) (mvT hZ20 (w63 hw)) (mvT hZ20 (w64 hw)) (by decide) (backOf (W := 1) (rm_logon l Z a0 hw [] b22 v_1 v_4 v_8 v_12 v_16 v_20 h22 n0 (Nat.le_trans Z0 sz31) A22 f24 f25 f26 f27 f28 f29 g_b22 hv_1 hv_4 hv_8 hv_12 hv_16 hv_20) hZ20 (w64 hw) (w61 hw) (by decide) (by decide)) (g := (mkF m 54 #[iv p0, iv p1, iv p2, iv p3, iv p4, iv p5, .val v_1, .val v_4, .val v_8, .val v_12, .val v_16, .val v_20, .unset, .unset, .unset] [v_20, v_16, v_12, v_8, v_4, v_1, (.ref b22), (.ref b22)])) rfl (by rw [hml]; rfl) (Steps.refl _) (a := b22) (argsL := [v_1, v_4, v_8, v_12, v_16, v_20]) (rest := [(.ref b22)]) (lenOf pd_8 rfl) rfl (by show 2 * 0 + _ ≤ _; exact Nat.le_of_eq rfl) (hb hby at_54) (fun _ _ => ⟨rfl, e22, (by decide : 27 + 0 ≤ _), (by decide : 74 + 0 ≤ _)⟩)
  dsimp only [Pt.U, Pt.locs, Pt.cells, Pt.slots] at X32 lq32 yq32 zq32 st32 hQ32
  subst lq32 yq32 zq32
  obtain ⟨h32, e32⟩ : ∃ z, T32.heap = z := ⟨_, rfl⟩
  rw [e32] at hQ32
  obtain ⟨rfl, N32q, K32, p32_0, p32_1, p32_2, p32_3, p32_4, p32_5, p32_6⟩ := hQ32
  have N32 := Fr.app N20 N32q
  have C33 : CHr Z consts_1 s.vm h0 T20.vm h32 := CHr.trans C23 (CHr.keep K32 (sfS (Safe.exa hZ20.alike A22 (by decide) (by decide)) sf0) C23.1)
  refine go_tr st32 ?_
  show Go _ _ _ _ (T32.setTop (mkF m 57 #[iv p0, iv p1, iv p2, iv p3, iv p4, iv p5, .val v_1, .val v_4, .val v_8, .val v_12, .val v_16, .val v_20, .unset, .unset, .unset] [(.ref b22)]))
  refine go_st (fun t k => XS.astore X32.here hx rfl (hb hby at_57) rfl rfl (l' := #[iv p0, iv p1, iv p2, iv p3, iv p4, iv p5, .val v_1, .val v_4, .val v_8, .val v_12, .val v_16, .val v_20, rv b22, .unset, .unset]) rfl k) ?_
  show Go _ _ _ _ (T32.setTop (mkF m 59 #[iv p0, iv p1, iv p2, iv p3, iv p4, iv p5, .val v_1, .val v_4, .val v_8, .val v_12, .val v_16, .val v_20, rv b22, .unset, .unset] []))
  refine go_st (fun t k => XS.iloadN X32.here hx rfl (hb hby at_59) rfl k) ?_
  show Go _ _ _ _ (T32.setTop (mkF m 60 #[iv p0, iv p1, iv p2, iv p3, iv p4, iv p5, .val v_1, .val v_4, .val v_8, .val v_12, .val v_16, .val v_20, rv b22, .unset, .unset] [(.int p1)]))
  have sz34 : h0.size ≤ h32.size := (Nat.le_trans sz31 K32.1)
  obtain ⟨_, _, ⟨T35, L35, kk35, nn35⟩, -, X35, ⟨Lc35, hQ35, lq35, yq35, zq35⟩, st35⟩ := Jvm.LawKit.callS X32 hx (y := (⟨"com/example/credence/credence/LogonSendsNothingPinLaw", "sent", "(I)Z"⟩ : MethodName)) hown20 (mvT hZ20 (w78 hw)) (mvT hZ20 (w79 hw)) (mvT hZ20 (w2 hw)) (mvT hZ20 (w80 hw)) (by decide) (backOf (W := 0) (rm_sent l Z a0 hw [] p1 h32 n0 (Nat.le_trans Z0 sz34) ) hZ20 (w80 hw) (w2 hw) (by decide) (by decide)) (g := (mkF m 60 #[iv p0, iv p1, iv p2, iv p3, iv p4, iv p5, .val v_1, .val v_4, .val v_8, .val v_12, .val v_16, .val v_20, rv b22, .unset, .unset] [(.int p1)])) rfl (by rw [hml]; rfl) (argsL := [(.int p1)]) (rest := []) (lenOf pd_3 rfl) rfl (by show 2 * 0 + _ ≤ _; exact Nat.le_of_eq rfl) (hb hby at_60) (fun _ _ => ⟨rfl, e32, (by decide : 27 + 0 ≤ _), (by decide : 74 + 0 ≤ _)⟩)
  dsimp only [Pt.U, Pt.locs, Pt.cells, Pt.slots] at X35 lq35 yq35 zq35 st35 hQ35
  subst lq35 yq35 zq35
  obtain ⟨h35, e35⟩ : ∃ z, T35.heap = z := ⟨_, rfl⟩
  rw [e35] at hQ35
  obtain ⟨r_35, rfl, N35q, he35, hr_35⟩ := hQ35
  have N35 := Fr.app N32 N35q
  rw [he35] at e35
  refine go_st st35 ?_
  show Go _ _ _ _ (T35.setTop (mkF m 63 #[iv p0, iv p1, iv p2, iv p3, iv p4, iv p5, .val v_1, .val v_4, .val v_8, .val v_12, .val v_16, .val v_20, rv b22, .unset, .unset] [(.int r_35)]))
  rcases Bool.eq_false_or_eq_true (sentB p1) with hb36 | hb36
  · skip
    rw [hb36, if_pos rfl] at hr_35
    subst hr_35
    show Go _ _ _ _ (T35.setTop (mkF m 63 #[iv p0, iv p1, iv p2, iv p3, iv p4, iv p5, .val v_1, .val v_4, .val v_8, .val v_12, .val v_16, .val v_20, rv b22, .unset, .unset] [(.int 1)]))
    refine go_st (fun t k => XS.ifYes X35.here hx rfl (pc0 := 63) (pc' := 96) rfl (hb hby at_63) rfl ((if0 _ _).trans (feq ((by decide) : ¬ ((1 : Int32) = (0 : Int32)))).2) (by decide) (by decide) k) ?_
    show Go _ _ _ _ (T35.setTop (mkF m 96 #[iv p0, iv p1, iv p2, iv p3, iv p4, iv p5, .val v_1, .val v_4, .val v_8, .val v_12, .val v_16, .val v_20, rv b22, .unset, .unset] []))
    refine go_st (fun t k => XS.iconst X35.here hx rfl (hb hby at_96) k) ?_
    show Go _ _ _ _ (T35.setTop (mkF m 97 #[iv p0, iv p1, iv p2, iv p3, iv p4, iv p5, .val v_1, .val v_4, .val v_8, .val v_12, .val v_16, .val v_20, rv b22, .unset, .unset] [(.int 1)]))
    refine go_st (fun t k => XS.goto X35.here hx rfl (pc0 := 97) (pc' := 101) rfl (hb hby at_97) (by decide) (by decide) k) ?_
    show Go _ _ _ _ (T35.setTop (mkF m 101 #[iv p0, iv p1, iv p2, iv p3, iv p4, iv p5, .val v_1, .val v_4, .val v_8, .val v_12, .val v_16, .val v_20, rv b22, .unset, .unset] [(.int 1)]))
    refine go_st (fun t k => XS.istore X35.here hx rfl (hb hby at_101) rfl (l' := #[iv p0, iv p1, iv p2, iv p3, iv p4, iv p5, .val v_1, .val v_4, .val v_8, .val v_12, .val v_16, .val v_20, rv b22, iv 1, .unset]) rfl k) ?_
    show Go _ _ _ _ (T35.setTop (mkF m 103 #[iv p0, iv p1, iv p2, iv p3, iv p4, iv p5, .val v_1, .val v_4, .val v_8, .val v_12, .val v_16, .val v_20, rv b22, iv 1, .unset] []))
    refine go_st (fun t k => XS.iload X35.here hx rfl (hb hby at_103) rfl k) ?_
    show Go _ _ _ _ (T35.setTop (mkF m 105 #[iv p0, iv p1, iv p2, iv p3, iv p4, iv p5, .val v_1, .val v_4, .val v_8, .val v_12, .val v_16, .val v_20, rv b22, iv 1, .unset] [(.int 1)]))
    refine go_st (fun t k => XS.ifYes X35.here hx rfl (pc0 := 105) (pc' := 112) rfl (hb hby at_105) rfl ((if0 _ _).trans (feq ((by decide) : ¬ ((1 : Int32) = (0 : Int32)))).2) (by decide) (by decide) k) ?_
    show Go _ _ _ _ (T35.setTop (mkF m 112 #[iv p0, iv p1, iv p2, iv p3, iv p4, iv p5, .val v_1, .val v_4, .val v_8, .val v_12, .val v_16, .val v_20, rv b22, iv 1, .unset] []))
    refine go_st (fun t k => XS.iconst X35.here hx rfl (hb hby at_112) k) ?_
    show Go _ _ _ _ (T35.setTop (mkF m 113 #[iv p0, iv p1, iv p2, iv p3, iv p4, iv p5, .val v_1, .val v_4, .val v_8, .val v_12, .val v_16, .val v_20, rv b22, iv 1, .unset] [(.int 0)]))
    refine go_st (fun t k => XS.istore X35.here hx rfl (hb hby at_113) rfl (l' := #[iv p0, iv p1, iv p2, iv p3, iv p4, iv p5, .val v_1, .val v_4, .val v_8, .val v_12, .val v_16, .val v_20, rv b22, iv 1, iv 0]) rfl k) ?_
    show Go _ _ _ _ (T35.setTop (mkF m 115 #[iv p0, iv p1, iv p2, iv p3, iv p4, iv p5, .val v_1, .val v_4, .val v_8, .val v_12, .val v_16, .val v_20, rv b22, iv 1, iv 0] []))
    refine go_st (fun t k => XS.aload X35.here hx rfl (hb hby at_115) rfl rfl k) ?_
    show Go _ _ _ _ (T35.setTop (mkF m 117 #[iv p0, iv p1, iv p2, iv p3, iv p4, iv p5, .val v_1, .val v_4, .val v_8, .val v_12, .val v_16, .val v_20, rv b22, iv 1, iv 0] [(.ref b22)]))
    have xe37 : Ext h4 h8 := (ext_keep (ext_rfl h4) K8 all0)
    have xe38 : Ext h4 h12 := (ext_keep xe37 K12 all0)
    have xe39 : Ext h4 h16 := (ext_keep xe38 K16 all0)
    have xe40 : Ext h4 h20 := (ext_keep xe39 K20 all0)
    have xe41 : Ext h4 h22 := (ext_tr xe40 E22)
    have sz42 : h4.size ≤ h12.size := (Nat.le_trans K8.1 K12.1)
    have sz43 : h4.size ≤ h16.size := (Nat.le_trans sz42 K16.1)
    have sz44 : h4.size ≤ h20.size := (Nat.le_trans sz43 K20.1)
    have xe45 : Ext h4 h32 := (ext_keep xe41 K32 (allS (Nat.le_trans sz44 (Nat.le_of_eq gq22.symm)) all0))
    have f46 : OStr Z h32 v_4 ne_4 := (p4_2.ext xe45)
    have xe47 : Ext h8 h12 := (ext_keep (ext_rfl h8) K12 all0)
    have xe48 : Ext h8 h16 := (ext_keep xe47 K16 all0)
    have xe49 : Ext h8 h20 := (ext_keep xe48 K20 all0)
    have xe50 : Ext h8 h22 := (ext_tr xe49 E22)
    have sz51 : h8.size ≤ h16.size := (Nat.le_trans K12.1 K16.1)
    have sz52 : h8.size ≤ h20.size := (Nat.le_trans sz51 K20.1)
    have xe53 : Ext h8 h32 := (ext_keep xe50 K32 (allS (Nat.le_trans sz52 (Nat.le_of_eq gq22.symm)) all0))
    have f54 : OCred Z h32 v_8 ne_8 := (p8_2.ext xe53)
    have xe55 : Ext h12 h16 := (ext_keep (ext_rfl h12) K16 all0)
    have xe56 : Ext h12 h20 := (ext_keep xe55 K20 all0)
    have xe57 : Ext h12 h22 := (ext_tr xe56 E22)
    have sz58 : h12.size ≤ h20.size := (Nat.le_trans K16.1 K20.1)
    have xe59 : Ext h12 h32 := (ext_keep xe57 K32 (allS (Nat.le_trans sz58 (Nat.le_of_eq gq22.symm)) all0))
    have f60 : OCred Z h32 v_12 ne_12 := (p12_2.ext xe59)
    have xe61 : Ext h16 h20 := (ext_keep (ext_rfl h16) K20 all0)
    have xe62 : Ext h16 h22 := (ext_tr xe61 E22)
    have xe63 : Ext h16 h32 := (ext_keep xe62 K32 (allS (Nat.le_trans K20.1 (Nat.le_of_eq gq22.symm)) all0))
    have f64 : OStr Z h32 v_16 ne_16 := (p16_2.ext xe63)
    have xe65 : Ext h20 h22 := (ext_tr (ext_rfl h20) E22)
    have xe66 : Ext h20 h32 := (ext_keep xe65 K32 (allS (Nat.le_of_eq gq22.symm) all0))
    have f67 : OStr Z h32 v_20 ne_20 := (p20_2.ext xe66)
    obtain ⟨cq68, kq68, q68a, q68b, q68c⟩ := isOf hZ20 e35 p32_0
    obtain ⟨_, _, ⟨T68, L68, kk68, nn68⟩, -, X68, ⟨Lc68, hQ68, lq68, yq68, zq68⟩, st68⟩ := X35.virtualBack hx (y := (⟨"com/example/credence/credence/Logon", "sendsNothing", "()Z"⟩ : MethodName)) (z := (⟨"com/example/credence/credence/Logon", "sendsNothing", "()Z"⟩ : MethodName)) hown20 (mvT hZ20 (w81 hw)) (mvT hZ20 (w82 hw)) (notFace_of_selects (args := #[]) (mvT hZ20 (w84 hw))) (mvT hZ20 (w84 hw)) (mvT hZ20 (w83 hw)) (by decide) (backOf (W := 0) (rm_sends l Z a0 hw [] b22 v_4 v_8 v_12 v_16 v_20 ne_4 ne_8 ne_12 ne_16 ne_20 h32 n0 (Nat.le_trans Z0 sz34) p32_2 p32_3 p32_4 p32_5 p32_6 hv_4 hv_8 hv_12 hv_16 hv_20 f46 f54 f60 f64 f67) hZ20 (w85 hw) (w61 hw) (by decide) (by decide)) q68a q68c (g := (mkF m 117 #[iv p0, iv p1, iv p2, iv p3, iv p4, iv p5, .val v_1, .val v_4, .val v_8, .val v_12, .val v_16, .val v_20, rv b22, iv 1, iv 0] [(.ref b22)])) rfl (by rw [hml]; rfl) (Steps.refl _) (argsL := []) (rest := []) (lenOf pd_1 rfl) rfl (by show 2 * 0 + _ ≤ _; exact Nat.le_of_eq rfl) (hb hby at_117) (fun _ _ => ⟨rfl, e35, (by decide : 27 + 0 ≤ _), (by decide : 74 + 0 ≤ _)⟩)
    dsimp only [Pt.U, Pt.locs, Pt.cells, Pt.slots] at X68 lq68 yq68 zq68 st68 hQ68
    subst lq68 yq68 zq68
    obtain ⟨h68, e68⟩ : ∃ z, T68.heap = z := ⟨_, rfl⟩
    rw [e68] at hQ68
    obtain ⟨r_68, rfl, N68q, he68, hr_68⟩ := hQ68
    have N68 := Fr.app N35 N68q
    rw [he68] at e68
    refine go_tr st68 ?_
    show Go _ _ _ _ (T68.setTop (mkF m 120 #[iv p0, iv p1, iv p2, iv p3, iv p4, iv p5, .val v_1, .val v_4, .val v_8, .val v_12, .val v_16, .val v_20, rv b22, iv 1, iv 0] [(.int r_68)]))
    refine go_st (fun t k => XS.iload X68.here hx rfl (hb hby at_120) rfl k) ?_
    show Go _ _ _ _ (T68.setTop (mkF m 122 #[iv p0, iv p1, iv p2, iv p3, iv p4, iv p5, .val v_1, .val v_4, .val v_8, .val v_12, .val v_16, .val v_20, rv b22, iv 1, iv 0] [(.int 0), (.int r_68)]))
    refine go_st (fun t k => XS.icmpNo X68.here hx rfl (hb hby at_122) rfl (teq ((by rw [hr_68, hne_4, hne_8, hne_12, hne_16, hne_20]; simp [hb36]) : r_68 = (0 : Int32))).2 k) ?_
    show Go _ _ _ _ (T68.setTop (mkF m 125 #[iv p0, iv p1, iv p2, iv p3, iv p4, iv p5, .val v_1, .val v_4, .val v_8, .val v_12, .val v_16, .val v_20, rv b22, iv 1, iv 0] []))
    refine go_st (fun t k => XS.iconst X68.here hx rfl (hb hby at_125) k) ?_
    show Go _ _ _ _ (T68.setTop (mkF m 126 #[iv p0, iv p1, iv p2, iv p3, iv p4, iv p5, .val v_1, .val v_4, .val v_8, .val v_12, .val v_16, .val v_20, rv b22, iv 1, iv 0] [(.int 1)]))
    refine go_st (fun t k => XS.goto X68.here hx rfl (pc0 := 126) (pc' := 130) rfl (hb hby at_126) (by decide) (by decide) k) ?_
    show Go _ _ _ _ (T68.setTop (mkF m 130 #[iv p0, iv p1, iv p2, iv p3, iv p4, iv p5, .val v_1, .val v_4, .val v_8, .val v_12, .val v_16, .val v_20, rv b22, iv 1, iv 0] [(.int 1)]))
    have ke69 : Keep h0 h1 [] := (Keep.trans (Keep.refl h0 []) K1 all0)
    have ke70 : Keep h0 h4 [] := (Keep.trans ke69 K4 all0)
    have ke71 : Keep h0 h8 [] := (Keep.trans ke70 K8 all0)
    have ke72 : Keep h0 h12 [] := (Keep.trans ke71 K12 all0)
    have ke73 : Keep h0 h16 [] := (Keep.trans ke72 K16 all0)
    have ke74 : Keep h0 h20 [] := (Keep.trans ke73 K20 all0)
    have ke75 : Keep h0 h22 [] := (Keep.ext ke74 E22)
    have ke76 : Keep h0 h32 [] := (Keep.trans ke75 K32 (allS (Or.inr (Nat.le_trans sz30 (Nat.le_of_eq gq22.symm))) all0))
    have sz77 : h20.size ≤ h32.size := (Nat.le_trans E22.1 K32.1)
    obtain ⟨fs, hr, hrun, hended, hR⟩ := X68.leaveW hS20 (by rw [e68]; exact (Nat.le_trans (Nat.le_refl _) sz77)) (v := some (.int 1)) (fun h => by rw [Bd.returns] at h; cases h)
    refine ⟨_, _, ?_, hrun, hended, _, _, rfl, ?_, ?_, hR.1, hR.2.1, hR.2.2.1, hR.2.2.2.mono (by decide) (by decide)⟩
    · exact retN X68 hx (t := .boolean) Bd.returns (by simp) (hb hby at_130) hr
    · show Q_law _ _ _ _ _ _ _ _ _ _ _ T68.heap _
      rw [e68]
      exact ⟨rfl, N68, ke76⟩
    · show CHr Z consts_1 s.vm s.heap T68.vm T68.heap
      rw [hh, e68]
      exact CHr.trans C33 (CHv.at X68 hZ20 (hEL hw) C33.1)
  · skip
    rw [hb36, if_neg (by decide)] at hr_35
    subst hr_35
    show Go _ _ _ _ (T35.setTop (mkF m 63 #[iv p0, iv p1, iv p2, iv p3, iv p4, iv p5, .val v_1, .val v_4, .val v_8, .val v_12, .val v_16, .val v_20, rv b22, .unset, .unset] [(.int 0)]))
    refine go_st (fun t k => XS.ifNo X35.here hx rfl (hb hby at_63) rfl ((if0 _ _).trans (teq ((by decide) : (0 : Int32) = (0 : Int32))).2) k) ?_
    show Go _ _ _ _ (T35.setTop (mkF m 66 #[iv p0, iv p1, iv p2, iv p3, iv p4, iv p5, .val v_1, .val v_4, .val v_8, .val v_12, .val v_16, .val v_20, rv b22, .unset, .unset] []))
    refine go_st (fun t k => XS.iloadN X35.here hx rfl (hb hby at_66) rfl k) ?_
    show Go _ _ _ _ (T35.setTop (mkF m 67 #[iv p0, iv p1, iv p2, iv p3, iv p4, iv p5, .val v_1, .val v_4, .val v_8, .val v_12, .val v_16, .val v_20, rv b22, .unset, .unset] [(.int p2)]))
    obtain ⟨_, _, ⟨T78, L78, kk78, nn78⟩, -, X78, ⟨Lc78, hQ78, lq78, yq78, zq78⟩, st78⟩ := Jvm.LawKit.callS X35 hx (y := (⟨"com/example/credence/credence/LogonSendsNothingPinLaw", "credSent", "(I)Z"⟩ : MethodName)) hown20 (mvT hZ20 (w91 hw)) (mvT hZ20 (w92 hw)) (mvT hZ20 (w2 hw)) (mvT hZ20 (w93 hw)) (by decide) (backOf (W := 0) (rm_csent l Z a0 hw [] p2 h32 n0 (Nat.le_trans Z0 sz34) ) hZ20 (w93 hw) (w2 hw) (by decide) (by decide)) (g := (mkF m 67 #[iv p0, iv p1, iv p2, iv p3, iv p4, iv p5, .val v_1, .val v_4, .val v_8, .val v_12, .val v_16, .val v_20, rv b22, .unset, .unset] [(.int p2)])) rfl (by rw [hml]; rfl) (argsL := [(.int p2)]) (rest := []) (lenOf pd_3 rfl) rfl (by show 2 * 0 + _ ≤ _; exact Nat.le_of_eq rfl) (hb hby at_67) (fun _ _ => ⟨rfl, e35, (by decide : 27 + 0 ≤ _), (by decide : 74 + 0 ≤ _)⟩)
    dsimp only [Pt.U, Pt.locs, Pt.cells, Pt.slots] at X78 lq78 yq78 zq78 st78 hQ78
    subst lq78 yq78 zq78
    obtain ⟨h78, e78⟩ : ∃ z, T78.heap = z := ⟨_, rfl⟩
    rw [e78] at hQ78
    obtain ⟨r_78, rfl, N78q, he78, hr_78⟩ := hQ78
    have N78 := Fr.app N35 N78q
    rw [he78] at e78
    refine go_st st78 ?_
    show Go _ _ _ _ (T78.setTop (mkF m 70 #[iv p0, iv p1, iv p2, iv p3, iv p4, iv p5, .val v_1, .val v_4, .val v_8, .val v_12, .val v_16, .val v_20, rv b22, .unset, .unset] [(.int r_78)]))
    rcases Bool.eq_false_or_eq_true (csentB p2) with hb79 | hb79
    · skip
      rw [hb79, if_pos rfl] at hr_78
      subst hr_78
      show Go _ _ _ _ (T78.setTop (mkF m 70 #[iv p0, iv p1, iv p2, iv p3, iv p4, iv p5, .val v_1, .val v_4, .val v_8, .val v_12, .val v_16, .val v_20, rv b22, .unset, .unset] [(.int 1)]))
      refine go_st (fun t k => XS.ifYes X78.here hx rfl (pc0 := 70) (pc' := 96) rfl (hb hby at_70) rfl ((if0 _ _).trans (feq ((by decide) : ¬ ((1 : Int32) = (0 : Int32)))).2) (by decide) (by decide) k) ?_
      show Go _ _ _ _ (T78.setTop (mkF m 96 #[iv p0, iv p1, iv p2, iv p3, iv p4, iv p5, .val v_1, .val v_4, .val v_8, .val v_12, .val v_16, .val v_20, rv b22, .unset, .unset] []))
      refine go_st (fun t k => XS.iconst X78.here hx rfl (hb hby at_96) k) ?_
      show Go _ _ _ _ (T78.setTop (mkF m 97 #[iv p0, iv p1, iv p2, iv p3, iv p4, iv p5, .val v_1, .val v_4, .val v_8, .val v_12, .val v_16, .val v_20, rv b22, .unset, .unset] [(.int 1)]))
      refine go_st (fun t k => XS.goto X78.here hx rfl (pc0 := 97) (pc' := 101) rfl (hb hby at_97) (by decide) (by decide) k) ?_
      show Go _ _ _ _ (T78.setTop (mkF m 101 #[iv p0, iv p1, iv p2, iv p3, iv p4, iv p5, .val v_1, .val v_4, .val v_8, .val v_12, .val v_16, .val v_20, rv b22, .unset, .unset] [(.int 1)]))
      refine go_st (fun t k => XS.istore X78.here hx rfl (hb hby at_101) rfl (l' := #[iv p0, iv p1, iv p2, iv p3, iv p4, iv p5, .val v_1, .val v_4, .val v_8, .val v_12, .val v_16, .val v_20, rv b22, iv 1, .unset]) rfl k) ?_
      show Go _ _ _ _ (T78.setTop (mkF m 103 #[iv p0, iv p1, iv p2, iv p3, iv p4, iv p5, .val v_1, .val v_4, .val v_8, .val v_12, .val v_16, .val v_20, rv b22, iv 1, .unset] []))
      refine go_st (fun t k => XS.iload X78.here hx rfl (hb hby at_103) rfl k) ?_
      show Go _ _ _ _ (T78.setTop (mkF m 105 #[iv p0, iv p1, iv p2, iv p3, iv p4, iv p5, .val v_1, .val v_4, .val v_8, .val v_12, .val v_16, .val v_20, rv b22, iv 1, .unset] [(.int 1)]))
      refine go_st (fun t k => XS.ifYes X78.here hx rfl (pc0 := 105) (pc' := 112) rfl (hb hby at_105) rfl ((if0 _ _).trans (feq ((by decide) : ¬ ((1 : Int32) = (0 : Int32)))).2) (by decide) (by decide) k) ?_
      show Go _ _ _ _ (T78.setTop (mkF m 112 #[iv p0, iv p1, iv p2, iv p3, iv p4, iv p5, .val v_1, .val v_4, .val v_8, .val v_12, .val v_16, .val v_20, rv b22, iv 1, .unset] []))
      refine go_st (fun t k => XS.iconst X78.here hx rfl (hb hby at_112) k) ?_
      show Go _ _ _ _ (T78.setTop (mkF m 113 #[iv p0, iv p1, iv p2, iv p3, iv p4, iv p5, .val v_1, .val v_4, .val v_8, .val v_12, .val v_16, .val v_20, rv b22, iv 1, .unset] [(.int 0)]))
      refine go_st (fun t k => XS.istore X78.here hx rfl (hb hby at_113) rfl (l' := #[iv p0, iv p1, iv p2, iv p3, iv p4, iv p5, .val v_1, .val v_4, .val v_8, .val v_12, .val v_16, .val v_20, rv b22, iv 1, iv 0]) rfl k) ?_
      show Go _ _ _ _ (T78.setTop (mkF m 115 #[iv p0, iv p1, iv p2, iv p3, iv p4, iv p5, .val v_1, .val v_4, .val v_8, .val v_12, .val v_16, .val v_20, rv b22, iv 1, iv 0] []))
      refine go_st (fun t k => XS.aload X78.here hx rfl (hb hby at_115) rfl rfl k) ?_
      show Go _ _ _ _ (T78.setTop (mkF m 117 #[iv p0, iv p1, iv p2, iv p3, iv p4, iv p5, .val v_1, .val v_4, .val v_8, .val v_12, .val v_16, .val v_20, rv b22, iv 1, iv 0] [(.ref b22)]))
      have xe80 : Ext h4 h8 := (ext_keep (ext_rfl h4) K8 all0)
      have xe81 : Ext h4 h12 := (ext_keep xe80 K12 all0)
      have xe82 : Ext h4 h16 := (ext_keep xe81 K16 all0)
      have xe83 : Ext h4 h20 := (ext_keep xe82 K20 all0)
      have xe84 : Ext h4 h22 := (ext_tr xe83 E22)
      have sz85 : h4.size ≤ h12.size := (Nat.le_trans K8.1 K12.1)
      have sz86 : h4.size ≤ h16.size := (Nat.le_trans sz85 K16.1)
      have sz87 : h4.size ≤ h20.size := (Nat.le_trans sz86 K20.1)
      have xe88 : Ext h4 h32 := (ext_keep xe84 K32 (allS (Nat.le_trans sz87 (Nat.le_of_eq gq22.symm)) all0))
      have f89 : OStr Z h32 v_4 ne_4 := (p4_2.ext xe88)
      have xe90 : Ext h8 h12 := (ext_keep (ext_rfl h8) K12 all0)
      have xe91 : Ext h8 h16 := (ext_keep xe90 K16 all0)
      have xe92 : Ext h8 h20 := (ext_keep xe91 K20 all0)
      have xe93 : Ext h8 h22 := (ext_tr xe92 E22)
      have sz94 : h8.size ≤ h16.size := (Nat.le_trans K12.1 K16.1)
      have sz95 : h8.size ≤ h20.size := (Nat.le_trans sz94 K20.1)
      have xe96 : Ext h8 h32 := (ext_keep xe93 K32 (allS (Nat.le_trans sz95 (Nat.le_of_eq gq22.symm)) all0))
      have f97 : OCred Z h32 v_8 ne_8 := (p8_2.ext xe96)
      have xe98 : Ext h12 h16 := (ext_keep (ext_rfl h12) K16 all0)
      have xe99 : Ext h12 h20 := (ext_keep xe98 K20 all0)
      have xe100 : Ext h12 h22 := (ext_tr xe99 E22)
      have sz101 : h12.size ≤ h20.size := (Nat.le_trans K16.1 K20.1)
      have xe102 : Ext h12 h32 := (ext_keep xe100 K32 (allS (Nat.le_trans sz101 (Nat.le_of_eq gq22.symm)) all0))
      have f103 : OCred Z h32 v_12 ne_12 := (p12_2.ext xe102)
      have xe104 : Ext h16 h20 := (ext_keep (ext_rfl h16) K20 all0)
      have xe105 : Ext h16 h22 := (ext_tr xe104 E22)
      have xe106 : Ext h16 h32 := (ext_keep xe105 K32 (allS (Nat.le_trans K20.1 (Nat.le_of_eq gq22.symm)) all0))
      have f107 : OStr Z h32 v_16 ne_16 := (p16_2.ext xe106)
      have xe108 : Ext h20 h22 := (ext_tr (ext_rfl h20) E22)
      have xe109 : Ext h20 h32 := (ext_keep xe108 K32 (allS (Nat.le_of_eq gq22.symm) all0))
      have f110 : OStr Z h32 v_20 ne_20 := (p20_2.ext xe109)
      obtain ⟨cq111, kq111, q111a, q111b, q111c⟩ := isOf hZ20 e78 p32_0
      obtain ⟨_, _, ⟨T111, L111, kk111, nn111⟩, -, X111, ⟨Lc111, hQ111, lq111, yq111, zq111⟩, st111⟩ := X78.virtualBack hx (y := (⟨"com/example/credence/credence/Logon", "sendsNothing", "()Z"⟩ : MethodName)) (z := (⟨"com/example/credence/credence/Logon", "sendsNothing", "()Z"⟩ : MethodName)) hown20 (mvT hZ20 (w81 hw)) (mvT hZ20 (w82 hw)) (notFace_of_selects (args := #[]) (mvT hZ20 (w84 hw))) (mvT hZ20 (w84 hw)) (mvT hZ20 (w83 hw)) (by decide) (backOf (W := 0) (rm_sends l Z a0 hw [] b22 v_4 v_8 v_12 v_16 v_20 ne_4 ne_8 ne_12 ne_16 ne_20 h32 n0 (Nat.le_trans Z0 sz34) p32_2 p32_3 p32_4 p32_5 p32_6 hv_4 hv_8 hv_12 hv_16 hv_20 f89 f97 f103 f107 f110) hZ20 (w85 hw) (w61 hw) (by decide) (by decide)) q111a q111c (g := (mkF m 117 #[iv p0, iv p1, iv p2, iv p3, iv p4, iv p5, .val v_1, .val v_4, .val v_8, .val v_12, .val v_16, .val v_20, rv b22, iv 1, iv 0] [(.ref b22)])) rfl (by rw [hml]; rfl) (Steps.refl _) (argsL := []) (rest := []) (lenOf pd_1 rfl) rfl (by show 2 * 0 + _ ≤ _; exact Nat.le_of_eq rfl) (hb hby at_117) (fun _ _ => ⟨rfl, e78, (by decide : 27 + 0 ≤ _), (by decide : 74 + 0 ≤ _)⟩)
      dsimp only [Pt.U, Pt.locs, Pt.cells, Pt.slots] at X111 lq111 yq111 zq111 st111 hQ111
      subst lq111 yq111 zq111
      obtain ⟨h111, e111⟩ : ∃ z, T111.heap = z := ⟨_, rfl⟩
      rw [e111] at hQ111
      obtain ⟨r_111, rfl, N111q, he111, hr_111⟩ := hQ111
      have N111 := Fr.app N78 N111q
      rw [he111] at e111
      refine go_tr st111 ?_
      show Go _ _ _ _ (T111.setTop (mkF m 120 #[iv p0, iv p1, iv p2, iv p3, iv p4, iv p5, .val v_1, .val v_4, .val v_8, .val v_12, .val v_16, .val v_20, rv b22, iv 1, iv 0] [(.int r_111)]))
      refine go_st (fun t k => XS.iload X111.here hx rfl (hb hby at_120) rfl k) ?_
      show Go _ _ _ _ (T111.setTop (mkF m 122 #[iv p0, iv p1, iv p2, iv p3, iv p4, iv p5, .val v_1, .val v_4, .val v_8, .val v_12, .val v_16, .val v_20, rv b22, iv 1, iv 0] [(.int 0), (.int r_111)]))
      refine go_st (fun t k => XS.icmpNo X111.here hx rfl (hb hby at_122) rfl (teq ((by rw [hr_111, hne_4, hne_8, hne_12, hne_16, hne_20]; simp [hb36, hb79]) : r_111 = (0 : Int32))).2 k) ?_
      show Go _ _ _ _ (T111.setTop (mkF m 125 #[iv p0, iv p1, iv p2, iv p3, iv p4, iv p5, .val v_1, .val v_4, .val v_8, .val v_12, .val v_16, .val v_20, rv b22, iv 1, iv 0] []))
      refine go_st (fun t k => XS.iconst X111.here hx rfl (hb hby at_125) k) ?_
      show Go _ _ _ _ (T111.setTop (mkF m 126 #[iv p0, iv p1, iv p2, iv p3, iv p4, iv p5, .val v_1, .val v_4, .val v_8, .val v_12, .val v_16, .val v_20, rv b22, iv 1, iv 0] [(.int 1)]))
      refine go_st (fun t k => XS.goto X111.here hx rfl (pc0 := 126) (pc' := 130) rfl (hb hby at_126) (by decide) (by decide) k) ?_
      show Go _ _ _ _ (T111.setTop (mkF m 130 #[iv p0, iv p1, iv p2, iv p3, iv p4, iv p5, .val v_1, .val v_4, .val v_8, .val v_12, .val v_16, .val v_20, rv b22, iv 1, iv 0] [(.int 1)]))
      have ke112 : Keep h0 h1 [] := (Keep.trans (Keep.refl h0 []) K1 all0)
      have ke113 : Keep h0 h4 [] := (Keep.trans ke112 K4 all0)
      have ke114 : Keep h0 h8 [] := (Keep.trans ke113 K8 all0)
      have ke115 : Keep h0 h12 [] := (Keep.trans ke114 K12 all0)
      have ke116 : Keep h0 h16 [] := (Keep.trans ke115 K16 all0)
      have ke117 : Keep h0 h20 [] := (Keep.trans ke116 K20 all0)
      have ke118 : Keep h0 h22 [] := (Keep.ext ke117 E22)
      have ke119 : Keep h0 h32 [] := (Keep.trans ke118 K32 (allS (Or.inr (Nat.le_trans sz30 (Nat.le_of_eq gq22.symm))) all0))
      have sz120 : h20.size ≤ h32.size := (Nat.le_trans E22.1 K32.1)
      obtain ⟨fs, hr, hrun, hended, hR⟩ := X111.leaveW hS20 (by rw [e111]; exact (Nat.le_trans (Nat.le_refl _) sz120)) (v := some (.int 1)) (fun h => by rw [Bd.returns] at h; cases h)
      refine ⟨_, _, ?_, hrun, hended, _, _, rfl, ?_, ?_, hR.1, hR.2.1, hR.2.2.1, hR.2.2.2.mono (by decide) (by decide)⟩
      · exact retN X111 hx (t := .boolean) Bd.returns (by simp) (hb hby at_130) hr
      · show Q_law _ _ _ _ _ _ _ _ _ _ _ T111.heap _
        rw [e111]
        exact ⟨rfl, N111, ke119⟩
      · show CHr Z consts_1 s.vm s.heap T111.vm T111.heap
        rw [hh, e111]
        exact CHr.trans C33 (CHv.at X111 hZ20 (hEL hw) C33.1)
    · skip
      rw [hb79, if_neg (by decide)] at hr_78
      subst hr_78
      show Go _ _ _ _ (T78.setTop (mkF m 70 #[iv p0, iv p1, iv p2, iv p3, iv p4, iv p5, .val v_1, .val v_4, .val v_8, .val v_12, .val v_16, .val v_20, rv b22, .unset, .unset] [(.int 0)]))
      refine go_st (fun t k => XS.ifNo X78.here hx rfl (hb hby at_70) rfl ((if0 _ _).trans (teq ((by decide) : (0 : Int32) = (0 : Int32))).2) k) ?_
      show Go _ _ _ _ (T78.setTop (mkF m 73 #[iv p0, iv p1, iv p2, iv p3, iv p4, iv p5, .val v_1, .val v_4, .val v_8, .val v_12, .val v_16, .val v_20, rv b22, .unset, .unset] []))
      refine go_st (fun t k => XS.iloadN X78.here hx rfl (hb hby at_73) rfl k) ?_
      show Go _ _ _ _ (T78.setTop (mkF m 74 #[iv p0, iv p1, iv p2, iv p3, iv p4, iv p5, .val v_1, .val v_4, .val v_8, .val v_12, .val v_16, .val v_20, rv b22, .unset, .unset] [(.int p3)]))
      obtain ⟨_, _, ⟨T121, L121, kk121, nn121⟩, -, X121, ⟨Lc121, hQ121, lq121, yq121, zq121⟩, st121⟩ := Jvm.LawKit.callS X78 hx (y := (⟨"com/example/credence/credence/LogonSendsNothingPinLaw", "credSent", "(I)Z"⟩ : MethodName)) hown20 (mvT hZ20 (w91 hw)) (mvT hZ20 (w92 hw)) (mvT hZ20 (w2 hw)) (mvT hZ20 (w93 hw)) (by decide) (backOf (W := 0) (rm_csent l Z a0 hw [] p3 h32 n0 (Nat.le_trans Z0 sz34) ) hZ20 (w93 hw) (w2 hw) (by decide) (by decide)) (g := (mkF m 74 #[iv p0, iv p1, iv p2, iv p3, iv p4, iv p5, .val v_1, .val v_4, .val v_8, .val v_12, .val v_16, .val v_20, rv b22, .unset, .unset] [(.int p3)])) rfl (by rw [hml]; rfl) (argsL := [(.int p3)]) (rest := []) (lenOf pd_3 rfl) rfl (by show 2 * 0 + _ ≤ _; exact Nat.le_of_eq rfl) (hb hby at_74) (fun _ _ => ⟨rfl, e78, (by decide : 27 + 0 ≤ _), (by decide : 74 + 0 ≤ _)⟩)
      dsimp only [Pt.U, Pt.locs, Pt.cells, Pt.slots] at X121 lq121 yq121 zq121 st121 hQ121
      subst lq121 yq121 zq121
      obtain ⟨h121, e121⟩ : ∃ z, T121.heap = z := ⟨_, rfl⟩
      rw [e121] at hQ121
      obtain ⟨r_121, rfl, N121q, he121, hr_121⟩ := hQ121
      have N121 := Fr.app N78 N121q
      rw [he121] at e121
      refine go_st st121 ?_
      show Go _ _ _ _ (T121.setTop (mkF m 77 #[iv p0, iv p1, iv p2, iv p3, iv p4, iv p5, .val v_1, .val v_4, .val v_8, .val v_12, .val v_16, .val v_20, rv b22, .unset, .unset] [(.int r_121)]))
      rcases Bool.eq_false_or_eq_true (csentB p3) with hb122 | hb122
      · skip
        rw [hb122, if_pos rfl] at hr_121
        subst hr_121
        show Go _ _ _ _ (T121.setTop (mkF m 77 #[iv p0, iv p1, iv p2, iv p3, iv p4, iv p5, .val v_1, .val v_4, .val v_8, .val v_12, .val v_16, .val v_20, rv b22, .unset, .unset] [(.int 1)]))
        refine go_st (fun t k => XS.ifYes X121.here hx rfl (pc0 := 77) (pc' := 96) rfl (hb hby at_77) rfl ((if0 _ _).trans (feq ((by decide) : ¬ ((1 : Int32) = (0 : Int32)))).2) (by decide) (by decide) k) ?_
        show Go _ _ _ _ (T121.setTop (mkF m 96 #[iv p0, iv p1, iv p2, iv p3, iv p4, iv p5, .val v_1, .val v_4, .val v_8, .val v_12, .val v_16, .val v_20, rv b22, .unset, .unset] []))
        refine go_st (fun t k => XS.iconst X121.here hx rfl (hb hby at_96) k) ?_
        show Go _ _ _ _ (T121.setTop (mkF m 97 #[iv p0, iv p1, iv p2, iv p3, iv p4, iv p5, .val v_1, .val v_4, .val v_8, .val v_12, .val v_16, .val v_20, rv b22, .unset, .unset] [(.int 1)]))
        refine go_st (fun t k => XS.goto X121.here hx rfl (pc0 := 97) (pc' := 101) rfl (hb hby at_97) (by decide) (by decide) k) ?_
        show Go _ _ _ _ (T121.setTop (mkF m 101 #[iv p0, iv p1, iv p2, iv p3, iv p4, iv p5, .val v_1, .val v_4, .val v_8, .val v_12, .val v_16, .val v_20, rv b22, .unset, .unset] [(.int 1)]))
        refine go_st (fun t k => XS.istore X121.here hx rfl (hb hby at_101) rfl (l' := #[iv p0, iv p1, iv p2, iv p3, iv p4, iv p5, .val v_1, .val v_4, .val v_8, .val v_12, .val v_16, .val v_20, rv b22, iv 1, .unset]) rfl k) ?_
        show Go _ _ _ _ (T121.setTop (mkF m 103 #[iv p0, iv p1, iv p2, iv p3, iv p4, iv p5, .val v_1, .val v_4, .val v_8, .val v_12, .val v_16, .val v_20, rv b22, iv 1, .unset] []))
        refine go_st (fun t k => XS.iload X121.here hx rfl (hb hby at_103) rfl k) ?_
        show Go _ _ _ _ (T121.setTop (mkF m 105 #[iv p0, iv p1, iv p2, iv p3, iv p4, iv p5, .val v_1, .val v_4, .val v_8, .val v_12, .val v_16, .val v_20, rv b22, iv 1, .unset] [(.int 1)]))
        refine go_st (fun t k => XS.ifYes X121.here hx rfl (pc0 := 105) (pc' := 112) rfl (hb hby at_105) rfl ((if0 _ _).trans (feq ((by decide) : ¬ ((1 : Int32) = (0 : Int32)))).2) (by decide) (by decide) k) ?_
        show Go _ _ _ _ (T121.setTop (mkF m 112 #[iv p0, iv p1, iv p2, iv p3, iv p4, iv p5, .val v_1, .val v_4, .val v_8, .val v_12, .val v_16, .val v_20, rv b22, iv 1, .unset] []))
        refine go_st (fun t k => XS.iconst X121.here hx rfl (hb hby at_112) k) ?_
        show Go _ _ _ _ (T121.setTop (mkF m 113 #[iv p0, iv p1, iv p2, iv p3, iv p4, iv p5, .val v_1, .val v_4, .val v_8, .val v_12, .val v_16, .val v_20, rv b22, iv 1, .unset] [(.int 0)]))
        refine go_st (fun t k => XS.istore X121.here hx rfl (hb hby at_113) rfl (l' := #[iv p0, iv p1, iv p2, iv p3, iv p4, iv p5, .val v_1, .val v_4, .val v_8, .val v_12, .val v_16, .val v_20, rv b22, iv 1, iv 0]) rfl k) ?_
        show Go _ _ _ _ (T121.setTop (mkF m 115 #[iv p0, iv p1, iv p2, iv p3, iv p4, iv p5, .val v_1, .val v_4, .val v_8, .val v_12, .val v_16, .val v_20, rv b22, iv 1, iv 0] []))
        refine go_st (fun t k => XS.aload X121.here hx rfl (hb hby at_115) rfl rfl k) ?_
        show Go _ _ _ _ (T121.setTop (mkF m 117 #[iv p0, iv p1, iv p2, iv p3, iv p4, iv p5, .val v_1, .val v_4, .val v_8, .val v_12, .val v_16, .val v_20, rv b22, iv 1, iv 0] [(.ref b22)]))
        have xe123 : Ext h4 h8 := (ext_keep (ext_rfl h4) K8 all0)
        have xe124 : Ext h4 h12 := (ext_keep xe123 K12 all0)
        have xe125 : Ext h4 h16 := (ext_keep xe124 K16 all0)
        have xe126 : Ext h4 h20 := (ext_keep xe125 K20 all0)
        have xe127 : Ext h4 h22 := (ext_tr xe126 E22)
        have sz128 : h4.size ≤ h12.size := (Nat.le_trans K8.1 K12.1)
        have sz129 : h4.size ≤ h16.size := (Nat.le_trans sz128 K16.1)
        have sz130 : h4.size ≤ h20.size := (Nat.le_trans sz129 K20.1)
        have xe131 : Ext h4 h32 := (ext_keep xe127 K32 (allS (Nat.le_trans sz130 (Nat.le_of_eq gq22.symm)) all0))
        have f132 : OStr Z h32 v_4 ne_4 := (p4_2.ext xe131)
        have xe133 : Ext h8 h12 := (ext_keep (ext_rfl h8) K12 all0)
        have xe134 : Ext h8 h16 := (ext_keep xe133 K16 all0)
        have xe135 : Ext h8 h20 := (ext_keep xe134 K20 all0)
        have xe136 : Ext h8 h22 := (ext_tr xe135 E22)
        have sz137 : h8.size ≤ h16.size := (Nat.le_trans K12.1 K16.1)
        have sz138 : h8.size ≤ h20.size := (Nat.le_trans sz137 K20.1)
        have xe139 : Ext h8 h32 := (ext_keep xe136 K32 (allS (Nat.le_trans sz138 (Nat.le_of_eq gq22.symm)) all0))
        have f140 : OCred Z h32 v_8 ne_8 := (p8_2.ext xe139)
        have xe141 : Ext h12 h16 := (ext_keep (ext_rfl h12) K16 all0)
        have xe142 : Ext h12 h20 := (ext_keep xe141 K20 all0)
        have xe143 : Ext h12 h22 := (ext_tr xe142 E22)
        have sz144 : h12.size ≤ h20.size := (Nat.le_trans K16.1 K20.1)
        have xe145 : Ext h12 h32 := (ext_keep xe143 K32 (allS (Nat.le_trans sz144 (Nat.le_of_eq gq22.symm)) all0))
        have f146 : OCred Z h32 v_12 ne_12 := (p12_2.ext xe145)
        have xe147 : Ext h16 h20 := (ext_keep (ext_rfl h16) K20 all0)
        have xe148 : Ext h16 h22 := (ext_tr xe147 E22)
        have xe149 : Ext h16 h32 := (ext_keep xe148 K32 (allS (Nat.le_trans K20.1 (Nat.le_of_eq gq22.symm)) all0))
        have f150 : OStr Z h32 v_16 ne_16 := (p16_2.ext xe149)
        have xe151 : Ext h20 h22 := (ext_tr (ext_rfl h20) E22)
        have xe152 : Ext h20 h32 := (ext_keep xe151 K32 (allS (Nat.le_of_eq gq22.symm) all0))
        have f153 : OStr Z h32 v_20 ne_20 := (p20_2.ext xe152)
        obtain ⟨cq154, kq154, q154a, q154b, q154c⟩ := isOf hZ20 e121 p32_0
        obtain ⟨_, _, ⟨T154, L154, kk154, nn154⟩, -, X154, ⟨Lc154, hQ154, lq154, yq154, zq154⟩, st154⟩ := X121.virtualBack hx (y := (⟨"com/example/credence/credence/Logon", "sendsNothing", "()Z"⟩ : MethodName)) (z := (⟨"com/example/credence/credence/Logon", "sendsNothing", "()Z"⟩ : MethodName)) hown20 (mvT hZ20 (w81 hw)) (mvT hZ20 (w82 hw)) (notFace_of_selects (args := #[]) (mvT hZ20 (w84 hw))) (mvT hZ20 (w84 hw)) (mvT hZ20 (w83 hw)) (by decide) (backOf (W := 0) (rm_sends l Z a0 hw [] b22 v_4 v_8 v_12 v_16 v_20 ne_4 ne_8 ne_12 ne_16 ne_20 h32 n0 (Nat.le_trans Z0 sz34) p32_2 p32_3 p32_4 p32_5 p32_6 hv_4 hv_8 hv_12 hv_16 hv_20 f132 f140 f146 f150 f153) hZ20 (w85 hw) (w61 hw) (by decide) (by decide)) q154a q154c (g := (mkF m 117 #[iv p0, iv p1, iv p2, iv p3, iv p4, iv p5, .val v_1, .val v_4, .val v_8, .val v_12, .val v_16, .val v_20, rv b22, iv 1, iv 0] [(.ref b22)])) rfl (by rw [hml]; rfl) (Steps.refl _) (argsL := []) (rest := []) (lenOf pd_1 rfl) rfl (by show 2 * 0 + _ ≤ _; exact Nat.le_of_eq rfl) (hb hby at_117) (fun _ _ => ⟨rfl, e121, (by decide : 27 + 0 ≤ _), (by decide : 74 + 0 ≤ _)⟩)
        dsimp only [Pt.U, Pt.locs, Pt.cells, Pt.slots] at X154 lq154 yq154 zq154 st154 hQ154
        subst lq154 yq154 zq154
        obtain ⟨h154, e154⟩ : ∃ z, T154.heap = z := ⟨_, rfl⟩
        rw [e154] at hQ154
        obtain ⟨r_154, rfl, N154q, he154, hr_154⟩ := hQ154
        have N154 := Fr.app N121 N154q
        rw [he154] at e154
        refine go_tr st154 ?_
        show Go _ _ _ _ (T154.setTop (mkF m 120 #[iv p0, iv p1, iv p2, iv p3, iv p4, iv p5, .val v_1, .val v_4, .val v_8, .val v_12, .val v_16, .val v_20, rv b22, iv 1, iv 0] [(.int r_154)]))
        refine go_st (fun t k => XS.iload X154.here hx rfl (hb hby at_120) rfl k) ?_
        show Go _ _ _ _ (T154.setTop (mkF m 122 #[iv p0, iv p1, iv p2, iv p3, iv p4, iv p5, .val v_1, .val v_4, .val v_8, .val v_12, .val v_16, .val v_20, rv b22, iv 1, iv 0] [(.int 0), (.int r_154)]))
        refine go_st (fun t k => XS.icmpNo X154.here hx rfl (hb hby at_122) rfl (teq ((by rw [hr_154, hne_4, hne_8, hne_12, hne_16, hne_20]; simp [hb36, hb79, hb122]) : r_154 = (0 : Int32))).2 k) ?_
        show Go _ _ _ _ (T154.setTop (mkF m 125 #[iv p0, iv p1, iv p2, iv p3, iv p4, iv p5, .val v_1, .val v_4, .val v_8, .val v_12, .val v_16, .val v_20, rv b22, iv 1, iv 0] []))
        refine go_st (fun t k => XS.iconst X154.here hx rfl (hb hby at_125) k) ?_
        show Go _ _ _ _ (T154.setTop (mkF m 126 #[iv p0, iv p1, iv p2, iv p3, iv p4, iv p5, .val v_1, .val v_4, .val v_8, .val v_12, .val v_16, .val v_20, rv b22, iv 1, iv 0] [(.int 1)]))
        refine go_st (fun t k => XS.goto X154.here hx rfl (pc0 := 126) (pc' := 130) rfl (hb hby at_126) (by decide) (by decide) k) ?_
        show Go _ _ _ _ (T154.setTop (mkF m 130 #[iv p0, iv p1, iv p2, iv p3, iv p4, iv p5, .val v_1, .val v_4, .val v_8, .val v_12, .val v_16, .val v_20, rv b22, iv 1, iv 0] [(.int 1)]))
        have ke155 : Keep h0 h1 [] := (Keep.trans (Keep.refl h0 []) K1 all0)
        have ke156 : Keep h0 h4 [] := (Keep.trans ke155 K4 all0)
        have ke157 : Keep h0 h8 [] := (Keep.trans ke156 K8 all0)
        have ke158 : Keep h0 h12 [] := (Keep.trans ke157 K12 all0)
        have ke159 : Keep h0 h16 [] := (Keep.trans ke158 K16 all0)
        have ke160 : Keep h0 h20 [] := (Keep.trans ke159 K20 all0)
        have ke161 : Keep h0 h22 [] := (Keep.ext ke160 E22)
        have ke162 : Keep h0 h32 [] := (Keep.trans ke161 K32 (allS (Or.inr (Nat.le_trans sz30 (Nat.le_of_eq gq22.symm))) all0))
        have sz163 : h20.size ≤ h32.size := (Nat.le_trans E22.1 K32.1)
        obtain ⟨fs, hr, hrun, hended, hR⟩ := X154.leaveW hS20 (by rw [e154]; exact (Nat.le_trans (Nat.le_refl _) sz163)) (v := some (.int 1)) (fun h => by rw [Bd.returns] at h; cases h)
        refine ⟨_, _, ?_, hrun, hended, _, _, rfl, ?_, ?_, hR.1, hR.2.1, hR.2.2.1, hR.2.2.2.mono (by decide) (by decide)⟩
        · exact retN X154 hx (t := .boolean) Bd.returns (by simp) (hb hby at_130) hr
        · show Q_law _ _ _ _ _ _ _ _ _ _ _ T154.heap _
          rw [e154]
          exact ⟨rfl, N154, ke162⟩
        · show CHr Z consts_1 s.vm s.heap T154.vm T154.heap
          rw [hh, e154]
          exact CHr.trans C33 (CHv.at X154 hZ20 (hEL hw) C33.1)
      · skip
        rw [hb122, if_neg (by decide)] at hr_121
        subst hr_121
        show Go _ _ _ _ (T121.setTop (mkF m 77 #[iv p0, iv p1, iv p2, iv p3, iv p4, iv p5, .val v_1, .val v_4, .val v_8, .val v_12, .val v_16, .val v_20, rv b22, .unset, .unset] [(.int 0)]))
        refine go_st (fun t k => XS.ifNo X121.here hx rfl (hb hby at_77) rfl ((if0 _ _).trans (teq ((by decide) : (0 : Int32) = (0 : Int32))).2) k) ?_
        show Go _ _ _ _ (T121.setTop (mkF m 80 #[iv p0, iv p1, iv p2, iv p3, iv p4, iv p5, .val v_1, .val v_4, .val v_8, .val v_12, .val v_16, .val v_20, rv b22, .unset, .unset] []))
        refine go_st (fun t k => XS.iload X121.here hx rfl (hb hby at_80) rfl k) ?_
        show Go _ _ _ _ (T121.setTop (mkF m 82 #[iv p0, iv p1, iv p2, iv p3, iv p4, iv p5, .val v_1, .val v_4, .val v_8, .val v_12, .val v_16, .val v_20, rv b22, .unset, .unset] [(.int p4)]))
        obtain ⟨_, _, ⟨T164, L164, kk164, nn164⟩, -, X164, ⟨Lc164, hQ164, lq164, yq164, zq164⟩, st164⟩ := Jvm.LawKit.callS X121 hx (y := (⟨"com/example/credence/credence/LogonSendsNothingPinLaw", "sent", "(I)Z"⟩ : MethodName)) hown20 (mvT hZ20 (w78 hw)) (mvT hZ20 (w79 hw)) (mvT hZ20 (w2 hw)) (mvT hZ20 (w80 hw)) (by decide) (backOf (W := 0) (rm_sent l Z a0 hw [] p4 h32 n0 (Nat.le_trans Z0 sz34) ) hZ20 (w80 hw) (w2 hw) (by decide) (by decide)) (g := (mkF m 82 #[iv p0, iv p1, iv p2, iv p3, iv p4, iv p5, .val v_1, .val v_4, .val v_8, .val v_12, .val v_16, .val v_20, rv b22, .unset, .unset] [(.int p4)])) rfl (by rw [hml]; rfl) (argsL := [(.int p4)]) (rest := []) (lenOf pd_3 rfl) rfl (by show 2 * 0 + _ ≤ _; exact Nat.le_of_eq rfl) (hb hby at_82) (fun _ _ => ⟨rfl, e121, (by decide : 27 + 0 ≤ _), (by decide : 74 + 0 ≤ _)⟩)
        dsimp only [Pt.U, Pt.locs, Pt.cells, Pt.slots] at X164 lq164 yq164 zq164 st164 hQ164
        subst lq164 yq164 zq164
        obtain ⟨h164, e164⟩ : ∃ z, T164.heap = z := ⟨_, rfl⟩
        rw [e164] at hQ164
        obtain ⟨r_164, rfl, N164q, he164, hr_164⟩ := hQ164
        have N164 := Fr.app N121 N164q
        rw [he164] at e164
        refine go_st st164 ?_
        show Go _ _ _ _ (T164.setTop (mkF m 85 #[iv p0, iv p1, iv p2, iv p3, iv p4, iv p5, .val v_1, .val v_4, .val v_8, .val v_12, .val v_16, .val v_20, rv b22, .unset, .unset] [(.int r_164)]))
        rcases Bool.eq_false_or_eq_true (sentB p4) with hb165 | hb165
        · skip
          rw [hb165, if_pos rfl] at hr_164
          subst hr_164
          show Go _ _ _ _ (T164.setTop (mkF m 85 #[iv p0, iv p1, iv p2, iv p3, iv p4, iv p5, .val v_1, .val v_4, .val v_8, .val v_12, .val v_16, .val v_20, rv b22, .unset, .unset] [(.int 1)]))
          refine go_st (fun t k => XS.ifYes X164.here hx rfl (pc0 := 85) (pc' := 96) rfl (hb hby at_85) rfl ((if0 _ _).trans (feq ((by decide) : ¬ ((1 : Int32) = (0 : Int32)))).2) (by decide) (by decide) k) ?_
          show Go _ _ _ _ (T164.setTop (mkF m 96 #[iv p0, iv p1, iv p2, iv p3, iv p4, iv p5, .val v_1, .val v_4, .val v_8, .val v_12, .val v_16, .val v_20, rv b22, .unset, .unset] []))
          refine go_st (fun t k => XS.iconst X164.here hx rfl (hb hby at_96) k) ?_
          show Go _ _ _ _ (T164.setTop (mkF m 97 #[iv p0, iv p1, iv p2, iv p3, iv p4, iv p5, .val v_1, .val v_4, .val v_8, .val v_12, .val v_16, .val v_20, rv b22, .unset, .unset] [(.int 1)]))
          refine go_st (fun t k => XS.goto X164.here hx rfl (pc0 := 97) (pc' := 101) rfl (hb hby at_97) (by decide) (by decide) k) ?_
          show Go _ _ _ _ (T164.setTop (mkF m 101 #[iv p0, iv p1, iv p2, iv p3, iv p4, iv p5, .val v_1, .val v_4, .val v_8, .val v_12, .val v_16, .val v_20, rv b22, .unset, .unset] [(.int 1)]))
          refine go_st (fun t k => XS.istore X164.here hx rfl (hb hby at_101) rfl (l' := #[iv p0, iv p1, iv p2, iv p3, iv p4, iv p5, .val v_1, .val v_4, .val v_8, .val v_12, .val v_16, .val v_20, rv b22, iv 1, .unset]) rfl k) ?_
          show Go _ _ _ _ (T164.setTop (mkF m 103 #[iv p0, iv p1, iv p2, iv p3, iv p4, iv p5, .val v_1, .val v_4, .val v_8, .val v_12, .val v_16, .val v_20, rv b22, iv 1, .unset] []))
          refine go_st (fun t k => XS.iload X164.here hx rfl (hb hby at_103) rfl k) ?_
          show Go _ _ _ _ (T164.setTop (mkF m 105 #[iv p0, iv p1, iv p2, iv p3, iv p4, iv p5, .val v_1, .val v_4, .val v_8, .val v_12, .val v_16, .val v_20, rv b22, iv 1, .unset] [(.int 1)]))
          refine go_st (fun t k => XS.ifYes X164.here hx rfl (pc0 := 105) (pc' := 112) rfl (hb hby at_105) rfl ((if0 _ _).trans (feq ((by decide) : ¬ ((1 : Int32) = (0 : Int32)))).2) (by decide) (by decide) k) ?_
          show Go _ _ _ _ (T164.setTop (mkF m 112 #[iv p0, iv p1, iv p2, iv p3, iv p4, iv p5, .val v_1, .val v_4, .val v_8, .val v_12, .val v_16, .val v_20, rv b22, iv 1, .unset] []))
          refine go_st (fun t k => XS.iconst X164.here hx rfl (hb hby at_112) k) ?_
          show Go _ _ _ _ (T164.setTop (mkF m 113 #[iv p0, iv p1, iv p2, iv p3, iv p4, iv p5, .val v_1, .val v_4, .val v_8, .val v_12, .val v_16, .val v_20, rv b22, iv 1, .unset] [(.int 0)]))
          refine go_st (fun t k => XS.istore X164.here hx rfl (hb hby at_113) rfl (l' := #[iv p0, iv p1, iv p2, iv p3, iv p4, iv p5, .val v_1, .val v_4, .val v_8, .val v_12, .val v_16, .val v_20, rv b22, iv 1, iv 0]) rfl k) ?_
          show Go _ _ _ _ (T164.setTop (mkF m 115 #[iv p0, iv p1, iv p2, iv p3, iv p4, iv p5, .val v_1, .val v_4, .val v_8, .val v_12, .val v_16, .val v_20, rv b22, iv 1, iv 0] []))
          refine go_st (fun t k => XS.aload X164.here hx rfl (hb hby at_115) rfl rfl k) ?_
          show Go _ _ _ _ (T164.setTop (mkF m 117 #[iv p0, iv p1, iv p2, iv p3, iv p4, iv p5, .val v_1, .val v_4, .val v_8, .val v_12, .val v_16, .val v_20, rv b22, iv 1, iv 0] [(.ref b22)]))
          have xe166 : Ext h4 h8 := (ext_keep (ext_rfl h4) K8 all0)
          have xe167 : Ext h4 h12 := (ext_keep xe166 K12 all0)
          have xe168 : Ext h4 h16 := (ext_keep xe167 K16 all0)
          have xe169 : Ext h4 h20 := (ext_keep xe168 K20 all0)
          have xe170 : Ext h4 h22 := (ext_tr xe169 E22)
          have sz171 : h4.size ≤ h12.size := (Nat.le_trans K8.1 K12.1)
          have sz172 : h4.size ≤ h16.size := (Nat.le_trans sz171 K16.1)
          have sz173 : h4.size ≤ h20.size := (Nat.le_trans sz172 K20.1)
          have xe174 : Ext h4 h32 := (ext_keep xe170 K32 (allS (Nat.le_trans sz173 (Nat.le_of_eq gq22.symm)) all0))
          have f175 : OStr Z h32 v_4 ne_4 := (p4_2.ext xe174)
          have xe176 : Ext h8 h12 := (ext_keep (ext_rfl h8) K12 all0)
          have xe177 : Ext h8 h16 := (ext_keep xe176 K16 all0)
          have xe178 : Ext h8 h20 := (ext_keep xe177 K20 all0)
          have xe179 : Ext h8 h22 := (ext_tr xe178 E22)
          have sz180 : h8.size ≤ h16.size := (Nat.le_trans K12.1 K16.1)
          have sz181 : h8.size ≤ h20.size := (Nat.le_trans sz180 K20.1)
          have xe182 : Ext h8 h32 := (ext_keep xe179 K32 (allS (Nat.le_trans sz181 (Nat.le_of_eq gq22.symm)) all0))
          have f183 : OCred Z h32 v_8 ne_8 := (p8_2.ext xe182)
          have xe184 : Ext h12 h16 := (ext_keep (ext_rfl h12) K16 all0)
          have xe185 : Ext h12 h20 := (ext_keep xe184 K20 all0)
          have xe186 : Ext h12 h22 := (ext_tr xe185 E22)
          have sz187 : h12.size ≤ h20.size := (Nat.le_trans K16.1 K20.1)
          have xe188 : Ext h12 h32 := (ext_keep xe186 K32 (allS (Nat.le_trans sz187 (Nat.le_of_eq gq22.symm)) all0))
          have f189 : OCred Z h32 v_12 ne_12 := (p12_2.ext xe188)
          have xe190 : Ext h16 h20 := (ext_keep (ext_rfl h16) K20 all0)
          have xe191 : Ext h16 h22 := (ext_tr xe190 E22)
          have xe192 : Ext h16 h32 := (ext_keep xe191 K32 (allS (Nat.le_trans K20.1 (Nat.le_of_eq gq22.symm)) all0))
          have f193 : OStr Z h32 v_16 ne_16 := (p16_2.ext xe192)
          have xe194 : Ext h20 h22 := (ext_tr (ext_rfl h20) E22)
          have xe195 : Ext h20 h32 := (ext_keep xe194 K32 (allS (Nat.le_of_eq gq22.symm) all0))
          have f196 : OStr Z h32 v_20 ne_20 := (p20_2.ext xe195)
          obtain ⟨cq197, kq197, q197a, q197b, q197c⟩ := isOf hZ20 e164 p32_0
          obtain ⟨_, _, ⟨T197, L197, kk197, nn197⟩, -, X197, ⟨Lc197, hQ197, lq197, yq197, zq197⟩, st197⟩ := X164.virtualBack hx (y := (⟨"com/example/credence/credence/Logon", "sendsNothing", "()Z"⟩ : MethodName)) (z := (⟨"com/example/credence/credence/Logon", "sendsNothing", "()Z"⟩ : MethodName)) hown20 (mvT hZ20 (w81 hw)) (mvT hZ20 (w82 hw)) (notFace_of_selects (args := #[]) (mvT hZ20 (w84 hw))) (mvT hZ20 (w84 hw)) (mvT hZ20 (w83 hw)) (by decide) (backOf (W := 0) (rm_sends l Z a0 hw [] b22 v_4 v_8 v_12 v_16 v_20 ne_4 ne_8 ne_12 ne_16 ne_20 h32 n0 (Nat.le_trans Z0 sz34) p32_2 p32_3 p32_4 p32_5 p32_6 hv_4 hv_8 hv_12 hv_16 hv_20 f175 f183 f189 f193 f196) hZ20 (w85 hw) (w61 hw) (by decide) (by decide)) q197a q197c (g := (mkF m 117 #[iv p0, iv p1, iv p2, iv p3, iv p4, iv p5, .val v_1, .val v_4, .val v_8, .val v_12, .val v_16, .val v_20, rv b22, iv 1, iv 0] [(.ref b22)])) rfl (by rw [hml]; rfl) (Steps.refl _) (argsL := []) (rest := []) (lenOf pd_1 rfl) rfl (by show 2 * 0 + _ ≤ _; exact Nat.le_of_eq rfl) (hb hby at_117) (fun _ _ => ⟨rfl, e164, (by decide : 27 + 0 ≤ _), (by decide : 74 + 0 ≤ _)⟩)
          dsimp only [Pt.U, Pt.locs, Pt.cells, Pt.slots] at X197 lq197 yq197 zq197 st197 hQ197
          subst lq197 yq197 zq197
          obtain ⟨h197, e197⟩ : ∃ z, T197.heap = z := ⟨_, rfl⟩
          rw [e197] at hQ197
          obtain ⟨r_197, rfl, N197q, he197, hr_197⟩ := hQ197
          have N197 := Fr.app N164 N197q
          rw [he197] at e197
          refine go_tr st197 ?_
          show Go _ _ _ _ (T197.setTop (mkF m 120 #[iv p0, iv p1, iv p2, iv p3, iv p4, iv p5, .val v_1, .val v_4, .val v_8, .val v_12, .val v_16, .val v_20, rv b22, iv 1, iv 0] [(.int r_197)]))
          refine go_st (fun t k => XS.iload X197.here hx rfl (hb hby at_120) rfl k) ?_
          show Go _ _ _ _ (T197.setTop (mkF m 122 #[iv p0, iv p1, iv p2, iv p3, iv p4, iv p5, .val v_1, .val v_4, .val v_8, .val v_12, .val v_16, .val v_20, rv b22, iv 1, iv 0] [(.int 0), (.int r_197)]))
          refine go_st (fun t k => XS.icmpNo X197.here hx rfl (hb hby at_122) rfl (teq ((by rw [hr_197, hne_4, hne_8, hne_12, hne_16, hne_20]; simp [hb36, hb79, hb122, hb165]) : r_197 = (0 : Int32))).2 k) ?_
          show Go _ _ _ _ (T197.setTop (mkF m 125 #[iv p0, iv p1, iv p2, iv p3, iv p4, iv p5, .val v_1, .val v_4, .val v_8, .val v_12, .val v_16, .val v_20, rv b22, iv 1, iv 0] []))
          refine go_st (fun t k => XS.iconst X197.here hx rfl (hb hby at_125) k) ?_
          show Go _ _ _ _ (T197.setTop (mkF m 126 #[iv p0, iv p1, iv p2, iv p3, iv p4, iv p5, .val v_1, .val v_4, .val v_8, .val v_12, .val v_16, .val v_20, rv b22, iv 1, iv 0] [(.int 1)]))
          refine go_st (fun t k => XS.goto X197.here hx rfl (pc0 := 126) (pc' := 130) rfl (hb hby at_126) (by decide) (by decide) k) ?_
          show Go _ _ _ _ (T197.setTop (mkF m 130 #[iv p0, iv p1, iv p2, iv p3, iv p4, iv p5, .val v_1, .val v_4, .val v_8, .val v_12, .val v_16, .val v_20, rv b22, iv 1, iv 0] [(.int 1)]))
          have ke198 : Keep h0 h1 [] := (Keep.trans (Keep.refl h0 []) K1 all0)
          have ke199 : Keep h0 h4 [] := (Keep.trans ke198 K4 all0)
          have ke200 : Keep h0 h8 [] := (Keep.trans ke199 K8 all0)
          have ke201 : Keep h0 h12 [] := (Keep.trans ke200 K12 all0)
          have ke202 : Keep h0 h16 [] := (Keep.trans ke201 K16 all0)
          have ke203 : Keep h0 h20 [] := (Keep.trans ke202 K20 all0)
          have ke204 : Keep h0 h22 [] := (Keep.ext ke203 E22)
          have ke205 : Keep h0 h32 [] := (Keep.trans ke204 K32 (allS (Or.inr (Nat.le_trans sz30 (Nat.le_of_eq gq22.symm))) all0))
          have sz206 : h20.size ≤ h32.size := (Nat.le_trans E22.1 K32.1)
          obtain ⟨fs, hr, hrun, hended, hR⟩ := X197.leaveW hS20 (by rw [e197]; exact (Nat.le_trans (Nat.le_refl _) sz206)) (v := some (.int 1)) (fun h => by rw [Bd.returns] at h; cases h)
          refine ⟨_, _, ?_, hrun, hended, _, _, rfl, ?_, ?_, hR.1, hR.2.1, hR.2.2.1, hR.2.2.2.mono (by decide) (by decide)⟩
          · exact retN X197 hx (t := .boolean) Bd.returns (by simp) (hb hby at_130) hr
          · show Q_law _ _ _ _ _ _ _ _ _ _ _ T197.heap _
            rw [e197]
            exact ⟨rfl, N197, ke205⟩
          · show CHr Z consts_1 s.vm s.heap T197.vm T197.heap
            rw [hh, e197]
            exact CHr.trans C33 (CHv.at X197 hZ20 (hEL hw) C33.1)
        · skip
          rw [hb165, if_neg (by decide)] at hr_164
          subst hr_164
          show Go _ _ _ _ (T164.setTop (mkF m 85 #[iv p0, iv p1, iv p2, iv p3, iv p4, iv p5, .val v_1, .val v_4, .val v_8, .val v_12, .val v_16, .val v_20, rv b22, .unset, .unset] [(.int 0)]))
          refine go_st (fun t k => XS.ifNo X164.here hx rfl (hb hby at_85) rfl ((if0 _ _).trans (teq ((by decide) : (0 : Int32) = (0 : Int32))).2) k) ?_
          show Go _ _ _ _ (T164.setTop (mkF m 88 #[iv p0, iv p1, iv p2, iv p3, iv p4, iv p5, .val v_1, .val v_4, .val v_8, .val v_12, .val v_16, .val v_20, rv b22, .unset, .unset] []))
          refine go_st (fun t k => XS.iload X164.here hx rfl (hb hby at_88) rfl k) ?_
          show Go _ _ _ _ (T164.setTop (mkF m 90 #[iv p0, iv p1, iv p2, iv p3, iv p4, iv p5, .val v_1, .val v_4, .val v_8, .val v_12, .val v_16, .val v_20, rv b22, .unset, .unset] [(.int p5)]))
          obtain ⟨_, _, ⟨T207, L207, kk207, nn207⟩, -, X207, ⟨Lc207, hQ207, lq207, yq207, zq207⟩, st207⟩ := Jvm.LawKit.callS X164 hx (y := (⟨"com/example/credence/credence/LogonSendsNothingPinLaw", "sent", "(I)Z"⟩ : MethodName)) hown20 (mvT hZ20 (w78 hw)) (mvT hZ20 (w79 hw)) (mvT hZ20 (w2 hw)) (mvT hZ20 (w80 hw)) (by decide) (backOf (W := 0) (rm_sent l Z a0 hw [] p5 h32 n0 (Nat.le_trans Z0 sz34) ) hZ20 (w80 hw) (w2 hw) (by decide) (by decide)) (g := (mkF m 90 #[iv p0, iv p1, iv p2, iv p3, iv p4, iv p5, .val v_1, .val v_4, .val v_8, .val v_12, .val v_16, .val v_20, rv b22, .unset, .unset] [(.int p5)])) rfl (by rw [hml]; rfl) (argsL := [(.int p5)]) (rest := []) (lenOf pd_3 rfl) rfl (by show 2 * 0 + _ ≤ _; exact Nat.le_of_eq rfl) (hb hby at_90) (fun _ _ => ⟨rfl, e164, (by decide : 27 + 0 ≤ _), (by decide : 74 + 0 ≤ _)⟩)
          dsimp only [Pt.U, Pt.locs, Pt.cells, Pt.slots] at X207 lq207 yq207 zq207 st207 hQ207
          subst lq207 yq207 zq207
          obtain ⟨h207, e207⟩ : ∃ z, T207.heap = z := ⟨_, rfl⟩
          rw [e207] at hQ207
          obtain ⟨r_207, rfl, N207q, he207, hr_207⟩ := hQ207
          have N207 := Fr.app N164 N207q
          rw [he207] at e207
          refine go_st st207 ?_
          show Go _ _ _ _ (T207.setTop (mkF m 93 #[iv p0, iv p1, iv p2, iv p3, iv p4, iv p5, .val v_1, .val v_4, .val v_8, .val v_12, .val v_16, .val v_20, rv b22, .unset, .unset] [(.int r_207)]))
          rcases Bool.eq_false_or_eq_true (sentB p5) with hb208 | hb208
          · skip
            rw [hb208, if_pos rfl] at hr_207
            subst hr_207
            show Go _ _ _ _ (T207.setTop (mkF m 93 #[iv p0, iv p1, iv p2, iv p3, iv p4, iv p5, .val v_1, .val v_4, .val v_8, .val v_12, .val v_16, .val v_20, rv b22, .unset, .unset] [(.int 1)]))
            refine go_st (fun t k => XS.ifNo X207.here hx rfl (hb hby at_93) rfl ((if0 _ _).trans (feq ((by decide) : ¬ ((1 : Int32) = (0 : Int32)))).1) k) ?_
            show Go _ _ _ _ (T207.setTop (mkF m 96 #[iv p0, iv p1, iv p2, iv p3, iv p4, iv p5, .val v_1, .val v_4, .val v_8, .val v_12, .val v_16, .val v_20, rv b22, .unset, .unset] []))
            refine go_st (fun t k => XS.iconst X207.here hx rfl (hb hby at_96) k) ?_
            show Go _ _ _ _ (T207.setTop (mkF m 97 #[iv p0, iv p1, iv p2, iv p3, iv p4, iv p5, .val v_1, .val v_4, .val v_8, .val v_12, .val v_16, .val v_20, rv b22, .unset, .unset] [(.int 1)]))
            refine go_st (fun t k => XS.goto X207.here hx rfl (pc0 := 97) (pc' := 101) rfl (hb hby at_97) (by decide) (by decide) k) ?_
            show Go _ _ _ _ (T207.setTop (mkF m 101 #[iv p0, iv p1, iv p2, iv p3, iv p4, iv p5, .val v_1, .val v_4, .val v_8, .val v_12, .val v_16, .val v_20, rv b22, .unset, .unset] [(.int 1)]))
            refine go_st (fun t k => XS.istore X207.here hx rfl (hb hby at_101) rfl (l' := #[iv p0, iv p1, iv p2, iv p3, iv p4, iv p5, .val v_1, .val v_4, .val v_8, .val v_12, .val v_16, .val v_20, rv b22, iv 1, .unset]) rfl k) ?_
            show Go _ _ _ _ (T207.setTop (mkF m 103 #[iv p0, iv p1, iv p2, iv p3, iv p4, iv p5, .val v_1, .val v_4, .val v_8, .val v_12, .val v_16, .val v_20, rv b22, iv 1, .unset] []))
            refine go_st (fun t k => XS.iload X207.here hx rfl (hb hby at_103) rfl k) ?_
            show Go _ _ _ _ (T207.setTop (mkF m 105 #[iv p0, iv p1, iv p2, iv p3, iv p4, iv p5, .val v_1, .val v_4, .val v_8, .val v_12, .val v_16, .val v_20, rv b22, iv 1, .unset] [(.int 1)]))
            refine go_st (fun t k => XS.ifYes X207.here hx rfl (pc0 := 105) (pc' := 112) rfl (hb hby at_105) rfl ((if0 _ _).trans (feq ((by decide) : ¬ ((1 : Int32) = (0 : Int32)))).2) (by decide) (by decide) k) ?_
            show Go _ _ _ _ (T207.setTop (mkF m 112 #[iv p0, iv p1, iv p2, iv p3, iv p4, iv p5, .val v_1, .val v_4, .val v_8, .val v_12, .val v_16, .val v_20, rv b22, iv 1, .unset] []))
            refine go_st (fun t k => XS.iconst X207.here hx rfl (hb hby at_112) k) ?_
            show Go _ _ _ _ (T207.setTop (mkF m 113 #[iv p0, iv p1, iv p2, iv p3, iv p4, iv p5, .val v_1, .val v_4, .val v_8, .val v_12, .val v_16, .val v_20, rv b22, iv 1, .unset] [(.int 0)]))
            refine go_st (fun t k => XS.istore X207.here hx rfl (hb hby at_113) rfl (l' := #[iv p0, iv p1, iv p2, iv p3, iv p4, iv p5, .val v_1, .val v_4, .val v_8, .val v_12, .val v_16, .val v_20, rv b22, iv 1, iv 0]) rfl k) ?_
            show Go _ _ _ _ (T207.setTop (mkF m 115 #[iv p0, iv p1, iv p2, iv p3, iv p4, iv p5, .val v_1, .val v_4, .val v_8, .val v_12, .val v_16, .val v_20, rv b22, iv 1, iv 0] []))
            refine go_st (fun t k => XS.aload X207.here hx rfl (hb hby at_115) rfl rfl k) ?_
            show Go _ _ _ _ (T207.setTop (mkF m 117 #[iv p0, iv p1, iv p2, iv p3, iv p4, iv p5, .val v_1, .val v_4, .val v_8, .val v_12, .val v_16, .val v_20, rv b22, iv 1, iv 0] [(.ref b22)]))
            have xe209 : Ext h4 h8 := (ext_keep (ext_rfl h4) K8 all0)
            have xe210 : Ext h4 h12 := (ext_keep xe209 K12 all0)
            have xe211 : Ext h4 h16 := (ext_keep xe210 K16 all0)
            have xe212 : Ext h4 h20 := (ext_keep xe211 K20 all0)
            have xe213 : Ext h4 h22 := (ext_tr xe212 E22)
            have sz214 : h4.size ≤ h12.size := (Nat.le_trans K8.1 K12.1)
            have sz215 : h4.size ≤ h16.size := (Nat.le_trans sz214 K16.1)
            have sz216 : h4.size ≤ h20.size := (Nat.le_trans sz215 K20.1)
            have xe217 : Ext h4 h32 := (ext_keep xe213 K32 (allS (Nat.le_trans sz216 (Nat.le_of_eq gq22.symm)) all0))
            have f218 : OStr Z h32 v_4 ne_4 := (p4_2.ext xe217)
            have xe219 : Ext h8 h12 := (ext_keep (ext_rfl h8) K12 all0)
            have xe220 : Ext h8 h16 := (ext_keep xe219 K16 all0)
            have xe221 : Ext h8 h20 := (ext_keep xe220 K20 all0)
            have xe222 : Ext h8 h22 := (ext_tr xe221 E22)
            have sz223 : h8.size ≤ h16.size := (Nat.le_trans K12.1 K16.1)
            have sz224 : h8.size ≤ h20.size := (Nat.le_trans sz223 K20.1)
            have xe225 : Ext h8 h32 := (ext_keep xe222 K32 (allS (Nat.le_trans sz224 (Nat.le_of_eq gq22.symm)) all0))
            have f226 : OCred Z h32 v_8 ne_8 := (p8_2.ext xe225)
            have xe227 : Ext h12 h16 := (ext_keep (ext_rfl h12) K16 all0)
            have xe228 : Ext h12 h20 := (ext_keep xe227 K20 all0)
            have xe229 : Ext h12 h22 := (ext_tr xe228 E22)
            have sz230 : h12.size ≤ h20.size := (Nat.le_trans K16.1 K20.1)
            have xe231 : Ext h12 h32 := (ext_keep xe229 K32 (allS (Nat.le_trans sz230 (Nat.le_of_eq gq22.symm)) all0))
            have f232 : OCred Z h32 v_12 ne_12 := (p12_2.ext xe231)
            have xe233 : Ext h16 h20 := (ext_keep (ext_rfl h16) K20 all0)
            have xe234 : Ext h16 h22 := (ext_tr xe233 E22)
            have xe235 : Ext h16 h32 := (ext_keep xe234 K32 (allS (Nat.le_trans K20.1 (Nat.le_of_eq gq22.symm)) all0))
            have f236 : OStr Z h32 v_16 ne_16 := (p16_2.ext xe235)
            have xe237 : Ext h20 h22 := (ext_tr (ext_rfl h20) E22)
            have xe238 : Ext h20 h32 := (ext_keep xe237 K32 (allS (Nat.le_of_eq gq22.symm) all0))
            have f239 : OStr Z h32 v_20 ne_20 := (p20_2.ext xe238)
            obtain ⟨cq240, kq240, q240a, q240b, q240c⟩ := isOf hZ20 e207 p32_0
            obtain ⟨_, _, ⟨T240, L240, kk240, nn240⟩, -, X240, ⟨Lc240, hQ240, lq240, yq240, zq240⟩, st240⟩ := X207.virtualBack hx (y := (⟨"com/example/credence/credence/Logon", "sendsNothing", "()Z"⟩ : MethodName)) (z := (⟨"com/example/credence/credence/Logon", "sendsNothing", "()Z"⟩ : MethodName)) hown20 (mvT hZ20 (w81 hw)) (mvT hZ20 (w82 hw)) (notFace_of_selects (args := #[]) (mvT hZ20 (w84 hw))) (mvT hZ20 (w84 hw)) (mvT hZ20 (w83 hw)) (by decide) (backOf (W := 0) (rm_sends l Z a0 hw [] b22 v_4 v_8 v_12 v_16 v_20 ne_4 ne_8 ne_12 ne_16 ne_20 h32 n0 (Nat.le_trans Z0 sz34) p32_2 p32_3 p32_4 p32_5 p32_6 hv_4 hv_8 hv_12 hv_16 hv_20 f218 f226 f232 f236 f239) hZ20 (w85 hw) (w61 hw) (by decide) (by decide)) q240a q240c (g := (mkF m 117 #[iv p0, iv p1, iv p2, iv p3, iv p4, iv p5, .val v_1, .val v_4, .val v_8, .val v_12, .val v_16, .val v_20, rv b22, iv 1, iv 0] [(.ref b22)])) rfl (by rw [hml]; rfl) (Steps.refl _) (argsL := []) (rest := []) (lenOf pd_1 rfl) rfl (by show 2 * 0 + _ ≤ _; exact Nat.le_of_eq rfl) (hb hby at_117) (fun _ _ => ⟨rfl, e207, (by decide : 27 + 0 ≤ _), (by decide : 74 + 0 ≤ _)⟩)
            dsimp only [Pt.U, Pt.locs, Pt.cells, Pt.slots] at X240 lq240 yq240 zq240 st240 hQ240
            subst lq240 yq240 zq240
            obtain ⟨h240, e240⟩ : ∃ z, T240.heap = z := ⟨_, rfl⟩
            rw [e240] at hQ240
            obtain ⟨r_240, rfl, N240q, he240, hr_240⟩ := hQ240
            have N240 := Fr.app N207 N240q
            rw [he240] at e240
            refine go_tr st240 ?_
            show Go _ _ _ _ (T240.setTop (mkF m 120 #[iv p0, iv p1, iv p2, iv p3, iv p4, iv p5, .val v_1, .val v_4, .val v_8, .val v_12, .val v_16, .val v_20, rv b22, iv 1, iv 0] [(.int r_240)]))
            refine go_st (fun t k => XS.iload X240.here hx rfl (hb hby at_120) rfl k) ?_
            show Go _ _ _ _ (T240.setTop (mkF m 122 #[iv p0, iv p1, iv p2, iv p3, iv p4, iv p5, .val v_1, .val v_4, .val v_8, .val v_12, .val v_16, .val v_20, rv b22, iv 1, iv 0] [(.int 0), (.int r_240)]))
            refine go_st (fun t k => XS.icmpNo X240.here hx rfl (hb hby at_122) rfl (teq ((by rw [hr_240, hne_4, hne_8, hne_12, hne_16, hne_20]; simp [hb36, hb79, hb122, hb165, hb208]) : r_240 = (0 : Int32))).2 k) ?_
            show Go _ _ _ _ (T240.setTop (mkF m 125 #[iv p0, iv p1, iv p2, iv p3, iv p4, iv p5, .val v_1, .val v_4, .val v_8, .val v_12, .val v_16, .val v_20, rv b22, iv 1, iv 0] []))
            refine go_st (fun t k => XS.iconst X240.here hx rfl (hb hby at_125) k) ?_
            show Go _ _ _ _ (T240.setTop (mkF m 126 #[iv p0, iv p1, iv p2, iv p3, iv p4, iv p5, .val v_1, .val v_4, .val v_8, .val v_12, .val v_16, .val v_20, rv b22, iv 1, iv 0] [(.int 1)]))
            refine go_st (fun t k => XS.goto X240.here hx rfl (pc0 := 126) (pc' := 130) rfl (hb hby at_126) (by decide) (by decide) k) ?_
            show Go _ _ _ _ (T240.setTop (mkF m 130 #[iv p0, iv p1, iv p2, iv p3, iv p4, iv p5, .val v_1, .val v_4, .val v_8, .val v_12, .val v_16, .val v_20, rv b22, iv 1, iv 0] [(.int 1)]))
            have ke241 : Keep h0 h1 [] := (Keep.trans (Keep.refl h0 []) K1 all0)
            have ke242 : Keep h0 h4 [] := (Keep.trans ke241 K4 all0)
            have ke243 : Keep h0 h8 [] := (Keep.trans ke242 K8 all0)
            have ke244 : Keep h0 h12 [] := (Keep.trans ke243 K12 all0)
            have ke245 : Keep h0 h16 [] := (Keep.trans ke244 K16 all0)
            have ke246 : Keep h0 h20 [] := (Keep.trans ke245 K20 all0)
            have ke247 : Keep h0 h22 [] := (Keep.ext ke246 E22)
            have ke248 : Keep h0 h32 [] := (Keep.trans ke247 K32 (allS (Or.inr (Nat.le_trans sz30 (Nat.le_of_eq gq22.symm))) all0))
            have sz249 : h20.size ≤ h32.size := (Nat.le_trans E22.1 K32.1)
            obtain ⟨fs, hr, hrun, hended, hR⟩ := X240.leaveW hS20 (by rw [e240]; exact (Nat.le_trans (Nat.le_refl _) sz249)) (v := some (.int 1)) (fun h => by rw [Bd.returns] at h; cases h)
            refine ⟨_, _, ?_, hrun, hended, _, _, rfl, ?_, ?_, hR.1, hR.2.1, hR.2.2.1, hR.2.2.2.mono (by decide) (by decide)⟩
            · exact retN X240 hx (t := .boolean) Bd.returns (by simp) (hb hby at_130) hr
            · show Q_law _ _ _ _ _ _ _ _ _ _ _ T240.heap _
              rw [e240]
              exact ⟨rfl, N240, ke248⟩
            · show CHr Z consts_1 s.vm s.heap T240.vm T240.heap
              rw [hh, e240]
              exact CHr.trans C33 (CHv.at X240 hZ20 (hEL hw) C33.1)
          · skip
            rw [hb208, if_neg (by decide)] at hr_207
            subst hr_207
            show Go _ _ _ _ (T207.setTop (mkF m 93 #[iv p0, iv p1, iv p2, iv p3, iv p4, iv p5, .val v_1, .val v_4, .val v_8, .val v_12, .val v_16, .val v_20, rv b22, .unset, .unset] [(.int 0)]))
            refine go_st (fun t k => XS.ifYes X207.here hx rfl (pc0 := 93) (pc' := 100) rfl (hb hby at_93) rfl ((if0 _ _).trans (teq ((by decide) : (0 : Int32) = (0 : Int32))).1) (by decide) (by decide) k) ?_
            show Go _ _ _ _ (T207.setTop (mkF m 100 #[iv p0, iv p1, iv p2, iv p3, iv p4, iv p5, .val v_1, .val v_4, .val v_8, .val v_12, .val v_16, .val v_20, rv b22, .unset, .unset] []))
            refine go_st (fun t k => XS.iconst X207.here hx rfl (hb hby at_100) k) ?_
            show Go _ _ _ _ (T207.setTop (mkF m 101 #[iv p0, iv p1, iv p2, iv p3, iv p4, iv p5, .val v_1, .val v_4, .val v_8, .val v_12, .val v_16, .val v_20, rv b22, .unset, .unset] [(.int 0)]))
            refine go_st (fun t k => XS.istore X207.here hx rfl (hb hby at_101) rfl (l' := #[iv p0, iv p1, iv p2, iv p3, iv p4, iv p5, .val v_1, .val v_4, .val v_8, .val v_12, .val v_16, .val v_20, rv b22, iv 0, .unset]) rfl k) ?_
            show Go _ _ _ _ (T207.setTop (mkF m 103 #[iv p0, iv p1, iv p2, iv p3, iv p4, iv p5, .val v_1, .val v_4, .val v_8, .val v_12, .val v_16, .val v_20, rv b22, iv 0, .unset] []))
            refine go_st (fun t k => XS.iload X207.here hx rfl (hb hby at_103) rfl k) ?_
            show Go _ _ _ _ (T207.setTop (mkF m 105 #[iv p0, iv p1, iv p2, iv p3, iv p4, iv p5, .val v_1, .val v_4, .val v_8, .val v_12, .val v_16, .val v_20, rv b22, iv 0, .unset] [(.int 0)]))
            refine go_st (fun t k => XS.ifNo X207.here hx rfl (hb hby at_105) rfl ((if0 _ _).trans (teq ((by decide) : (0 : Int32) = (0 : Int32))).2) k) ?_
            show Go _ _ _ _ (T207.setTop (mkF m 108 #[iv p0, iv p1, iv p2, iv p3, iv p4, iv p5, .val v_1, .val v_4, .val v_8, .val v_12, .val v_16, .val v_20, rv b22, iv 0, .unset] []))
            refine go_st (fun t k => XS.iconst X207.here hx rfl (hb hby at_108) k) ?_
            show Go _ _ _ _ (T207.setTop (mkF m 109 #[iv p0, iv p1, iv p2, iv p3, iv p4, iv p5, .val v_1, .val v_4, .val v_8, .val v_12, .val v_16, .val v_20, rv b22, iv 0, .unset] [(.int 1)]))
            refine go_st (fun t k => XS.goto X207.here hx rfl (pc0 := 109) (pc' := 113) rfl (hb hby at_109) (by decide) (by decide) k) ?_
            show Go _ _ _ _ (T207.setTop (mkF m 113 #[iv p0, iv p1, iv p2, iv p3, iv p4, iv p5, .val v_1, .val v_4, .val v_8, .val v_12, .val v_16, .val v_20, rv b22, iv 0, .unset] [(.int 1)]))
            refine go_st (fun t k => XS.istore X207.here hx rfl (hb hby at_113) rfl (l' := #[iv p0, iv p1, iv p2, iv p3, iv p4, iv p5, .val v_1, .val v_4, .val v_8, .val v_12, .val v_16, .val v_20, rv b22, iv 0, iv 1]) rfl k) ?_
            show Go _ _ _ _ (T207.setTop (mkF m 115 #[iv p0, iv p1, iv p2, iv p3, iv p4, iv p5, .val v_1, .val v_4, .val v_8, .val v_12, .val v_16, .val v_20, rv b22, iv 0, iv 1] []))
            refine go_st (fun t k => XS.aload X207.here hx rfl (hb hby at_115) rfl rfl k) ?_
            show Go _ _ _ _ (T207.setTop (mkF m 117 #[iv p0, iv p1, iv p2, iv p3, iv p4, iv p5, .val v_1, .val v_4, .val v_8, .val v_12, .val v_16, .val v_20, rv b22, iv 0, iv 1] [(.ref b22)]))
            have xe250 : Ext h4 h8 := (ext_keep (ext_rfl h4) K8 all0)
            have xe251 : Ext h4 h12 := (ext_keep xe250 K12 all0)
            have xe252 : Ext h4 h16 := (ext_keep xe251 K16 all0)
            have xe253 : Ext h4 h20 := (ext_keep xe252 K20 all0)
            have xe254 : Ext h4 h22 := (ext_tr xe253 E22)
            have sz255 : h4.size ≤ h12.size := (Nat.le_trans K8.1 K12.1)
            have sz256 : h4.size ≤ h16.size := (Nat.le_trans sz255 K16.1)
            have sz257 : h4.size ≤ h20.size := (Nat.le_trans sz256 K20.1)
            have xe258 : Ext h4 h32 := (ext_keep xe254 K32 (allS (Nat.le_trans sz257 (Nat.le_of_eq gq22.symm)) all0))
            have f259 : OStr Z h32 v_4 ne_4 := (p4_2.ext xe258)
            have xe260 : Ext h8 h12 := (ext_keep (ext_rfl h8) K12 all0)
            have xe261 : Ext h8 h16 := (ext_keep xe260 K16 all0)
            have xe262 : Ext h8 h20 := (ext_keep xe261 K20 all0)
            have xe263 : Ext h8 h22 := (ext_tr xe262 E22)
            have sz264 : h8.size ≤ h16.size := (Nat.le_trans K12.1 K16.1)
            have sz265 : h8.size ≤ h20.size := (Nat.le_trans sz264 K20.1)
            have xe266 : Ext h8 h32 := (ext_keep xe263 K32 (allS (Nat.le_trans sz265 (Nat.le_of_eq gq22.symm)) all0))
            have f267 : OCred Z h32 v_8 ne_8 := (p8_2.ext xe266)
            have xe268 : Ext h12 h16 := (ext_keep (ext_rfl h12) K16 all0)
            have xe269 : Ext h12 h20 := (ext_keep xe268 K20 all0)
            have xe270 : Ext h12 h22 := (ext_tr xe269 E22)
            have sz271 : h12.size ≤ h20.size := (Nat.le_trans K16.1 K20.1)
            have xe272 : Ext h12 h32 := (ext_keep xe270 K32 (allS (Nat.le_trans sz271 (Nat.le_of_eq gq22.symm)) all0))
            have f273 : OCred Z h32 v_12 ne_12 := (p12_2.ext xe272)
            have xe274 : Ext h16 h20 := (ext_keep (ext_rfl h16) K20 all0)
            have xe275 : Ext h16 h22 := (ext_tr xe274 E22)
            have xe276 : Ext h16 h32 := (ext_keep xe275 K32 (allS (Nat.le_trans K20.1 (Nat.le_of_eq gq22.symm)) all0))
            have f277 : OStr Z h32 v_16 ne_16 := (p16_2.ext xe276)
            have xe278 : Ext h20 h22 := (ext_tr (ext_rfl h20) E22)
            have xe279 : Ext h20 h32 := (ext_keep xe278 K32 (allS (Nat.le_of_eq gq22.symm) all0))
            have f280 : OStr Z h32 v_20 ne_20 := (p20_2.ext xe279)
            obtain ⟨cq281, kq281, q281a, q281b, q281c⟩ := isOf hZ20 e207 p32_0
            obtain ⟨_, _, ⟨T281, L281, kk281, nn281⟩, -, X281, ⟨Lc281, hQ281, lq281, yq281, zq281⟩, st281⟩ := X207.virtualBack hx (y := (⟨"com/example/credence/credence/Logon", "sendsNothing", "()Z"⟩ : MethodName)) (z := (⟨"com/example/credence/credence/Logon", "sendsNothing", "()Z"⟩ : MethodName)) hown20 (mvT hZ20 (w81 hw)) (mvT hZ20 (w82 hw)) (notFace_of_selects (args := #[]) (mvT hZ20 (w84 hw))) (mvT hZ20 (w84 hw)) (mvT hZ20 (w83 hw)) (by decide) (backOf (W := 0) (rm_sends l Z a0 hw [] b22 v_4 v_8 v_12 v_16 v_20 ne_4 ne_8 ne_12 ne_16 ne_20 h32 n0 (Nat.le_trans Z0 sz34) p32_2 p32_3 p32_4 p32_5 p32_6 hv_4 hv_8 hv_12 hv_16 hv_20 f259 f267 f273 f277 f280) hZ20 (w85 hw) (w61 hw) (by decide) (by decide)) q281a q281c (g := (mkF m 117 #[iv p0, iv p1, iv p2, iv p3, iv p4, iv p5, .val v_1, .val v_4, .val v_8, .val v_12, .val v_16, .val v_20, rv b22, iv 0, iv 1] [(.ref b22)])) rfl (by rw [hml]; rfl) (Steps.refl _) (argsL := []) (rest := []) (lenOf pd_1 rfl) rfl (by show 2 * 0 + _ ≤ _; exact Nat.le_of_eq rfl) (hb hby at_117) (fun _ _ => ⟨rfl, e207, (by decide : 27 + 0 ≤ _), (by decide : 74 + 0 ≤ _)⟩)
            dsimp only [Pt.U, Pt.locs, Pt.cells, Pt.slots] at X281 lq281 yq281 zq281 st281 hQ281
            subst lq281 yq281 zq281
            obtain ⟨h281, e281⟩ : ∃ z, T281.heap = z := ⟨_, rfl⟩
            rw [e281] at hQ281
            obtain ⟨r_281, rfl, N281q, he281, hr_281⟩ := hQ281
            have N281 := Fr.app N207 N281q
            rw [he281] at e281
            refine go_tr st281 ?_
            show Go _ _ _ _ (T281.setTop (mkF m 120 #[iv p0, iv p1, iv p2, iv p3, iv p4, iv p5, .val v_1, .val v_4, .val v_8, .val v_12, .val v_16, .val v_20, rv b22, iv 0, iv 1] [(.int r_281)]))
            refine go_st (fun t k => XS.iload X281.here hx rfl (hb hby at_120) rfl k) ?_
            show Go _ _ _ _ (T281.setTop (mkF m 122 #[iv p0, iv p1, iv p2, iv p3, iv p4, iv p5, .val v_1, .val v_4, .val v_8, .val v_12, .val v_16, .val v_20, rv b22, iv 0, iv 1] [(.int 1), (.int r_281)]))
            refine go_st (fun t k => XS.icmpNo X281.here hx rfl (hb hby at_122) rfl (teq ((by rw [hr_281, hne_4, hne_8, hne_12, hne_16, hne_20]; simp [hb36, hb79, hb122, hb165, hb208]) : r_281 = (1 : Int32))).2 k) ?_
            show Go _ _ _ _ (T281.setTop (mkF m 125 #[iv p0, iv p1, iv p2, iv p3, iv p4, iv p5, .val v_1, .val v_4, .val v_8, .val v_12, .val v_16, .val v_20, rv b22, iv 0, iv 1] []))
            refine go_st (fun t k => XS.iconst X281.here hx rfl (hb hby at_125) k) ?_
            show Go _ _ _ _ (T281.setTop (mkF m 126 #[iv p0, iv p1, iv p2, iv p3, iv p4, iv p5, .val v_1, .val v_4, .val v_8, .val v_12, .val v_16, .val v_20, rv b22, iv 0, iv 1] [(.int 1)]))
            refine go_st (fun t k => XS.goto X281.here hx rfl (pc0 := 126) (pc' := 130) rfl (hb hby at_126) (by decide) (by decide) k) ?_
            show Go _ _ _ _ (T281.setTop (mkF m 130 #[iv p0, iv p1, iv p2, iv p3, iv p4, iv p5, .val v_1, .val v_4, .val v_8, .val v_12, .val v_16, .val v_20, rv b22, iv 0, iv 1] [(.int 1)]))
            have ke282 : Keep h0 h1 [] := (Keep.trans (Keep.refl h0 []) K1 all0)
            have ke283 : Keep h0 h4 [] := (Keep.trans ke282 K4 all0)
            have ke284 : Keep h0 h8 [] := (Keep.trans ke283 K8 all0)
            have ke285 : Keep h0 h12 [] := (Keep.trans ke284 K12 all0)
            have ke286 : Keep h0 h16 [] := (Keep.trans ke285 K16 all0)
            have ke287 : Keep h0 h20 [] := (Keep.trans ke286 K20 all0)
            have ke288 : Keep h0 h22 [] := (Keep.ext ke287 E22)
            have ke289 : Keep h0 h32 [] := (Keep.trans ke288 K32 (allS (Or.inr (Nat.le_trans sz30 (Nat.le_of_eq gq22.symm))) all0))
            have sz290 : h20.size ≤ h32.size := (Nat.le_trans E22.1 K32.1)
            obtain ⟨fs, hr, hrun, hended, hR⟩ := X281.leaveW hS20 (by rw [e281]; exact (Nat.le_trans (Nat.le_refl _) sz290)) (v := some (.int 1)) (fun h => by rw [Bd.returns] at h; cases h)
            refine ⟨_, _, ?_, hrun, hended, _, _, rfl, ?_, ?_, hR.1, hR.2.1, hR.2.2.1, hR.2.2.2.mono (by decide) (by decide)⟩
            · exact retN X281 hx (t := .boolean) Bd.returns (by simp) (hb hby at_130) hr
            · show Q_law _ _ _ _ _ _ _ _ _ _ _ T281.heap _
              rw [e281]
              exact ⟨rfl, N281, ke289⟩
            · show CHr Z consts_1 s.vm s.heap T281.vm T281.heap
              rw [hh, e281]
              exact CHr.trans C33 (CHv.at X281 hZ20 (hEL hw) C33.1)
set_option maxRecDepth 65536 in
set_option maxHeartbeats 40000000 in
theorem comes_1 {Post : Tables → Env → Array Value → State → Outcome → State → Prop} (hpost : ∀ tb e args s v u, (limb_1_1.after args s (.returned v) u = true ∧ limb_1_2.after args s (.returned v) u = true ∧ True) → ReturnedEndW s (.returned v) u (Jvm.fieldLocs frame_1_writes args s ++ Jvm.arrayLocs frame_1_arrays args s ++ Jvm.staticLocs frame_1_statics s) 64 1280 → Post tb e args s (.returned v) u) :
    ArmFor flags0 classFile x code maxLocals ret World_1 tables_1 room_1 Calls_1 rest_1 Pre_1 Post := by
  intro l hfl _ _ p e ha hc hk s m args below hf hA hF happ hP
  obtain ⟨hcalls, hrest, hpre⟩ := hP
  obtain ⟨-, -, -, hnamed, -, -, -, hat⟩ := (Spec.applies_iff hf).mp happ
  obtain ⟨hg, hn⟩ := and_e (Cond.before_iff.mp (show (Jvm.Cond.and given_1 narrow_1).before args s = true from hpre))
  obtain ⟨hcnt, ha0⟩ := and_e hg
  obtain ⟨gi0, ha1⟩ := and_e ha0
  obtain ⟨gi1, ha2⟩ := and_e ha1
  obtain ⟨gi2, ha3⟩ := and_e ha2
  obtain ⟨gi3, ha4⟩ := and_e ha3
  obtain ⟨gi4, ha5⟩ := and_e ha4
  have gi5 := ha5
  obtain ⟨w0_, w1_, w2_, w3_, w4_, w5_, rfl⟩ : ∃ w0_ w1_ w2_ w3_ w4_ w5_ : Value, args = #[w0_, w1_, w2_, w3_, w4_, w5_] := by
    have hs : args.size = 6 := by simpa [Cond.value, given_1] using hcnt
    obtain ⟨L⟩ := args
    match L, hs with
    | [w0_, w1_, w2_, w3_, w4_, w5_], _ => exact ⟨w0_, w1_, w2_, w3_, w4_, w5_, rfl⟩
  have hw := fun d (hd : d ∈ tables_1) => atoms_spec (ws := Jvm.Cond.code x code maxLocals ret :: tables_1) hat d (List.mem_cons_of_mem _ hd)
  have hfit : Fit s := fun {y c} hc i hi => by
    obtain ⟨ha, rfl⟩ := Array.getElem?_eq_some_iff.mp hc
    have q := List.all_eq_true.mp ((Array.all_eq_true_iff_forall_mem.mp hF) _ (Array.getElem_mem ha)) i (List.mem_range.mpr hi)
    simpa [Array.getElem?_eq_getElem hi] using q
  obtain ⟨hsets, hown0⟩ := atoms_of _ (rest_1_c_eq ▸ (show rest_1_c.before _ s = true from hrest))
  obtain ⟨i0, ei0⟩ := is_v gi0
  obtain rfl : w0_ = (.int i0) := Option.some.inj ei0
  obtain ⟨i1, ei1⟩ := is_v gi1
  obtain rfl : w1_ = (.int i1) := Option.some.inj ei1
  obtain ⟨i2, ei2⟩ := is_v gi2
  obtain rfl : w2_ = (.int i2) := Option.some.inj ei2
  obtain ⟨i3, ei3⟩ := is_v gi3
  obtain rfl : w3_ = (.int i3) := Option.some.inj ei3
  obtain ⟨i4, ei4⟩ := is_v gi4
  obtain rfl : w4_ = (.int i4) := Option.some.inj ei4
  obtain ⟨i5, ei5⟩ := is_v gi5
  obtain rfl : w5_ = (.int i5) := Option.some.inj ei5
  have n3 := not_v (Cond.before_iff.mp (hsets _ (List.mem_of_getElem? (i := 2) rfl)))
  obtain ⟨G1, e6⟩ := is_v (Cond.before_iff.mp (hsets _ (List.mem_of_getElem? (i := 1) rfl)))
  have CS : Sta s s.heap "java/lang/String" "COMPACT_STRINGS" "Z" (.int G1) := Sta.start e6 (Or.inl (hsets _ (List.mem_of_getElem? (i := 0) rfl)))
  have CSn : ¬ (G1 = (0 : Int32)) := gotF (Cond.eq_ints e6 (Term.int_eval (0))) n3
  obtain ⟨n, o, h1, h2, h3, _, L, rfl, ⟨rfl, N, -⟩, -, hq⟩ := rm_law l s _ hw tables_1 i0 i1 i2 i3 i4 i5 G1 s.heap s.heap.size (Nat.le_refl _) CS CSn (Old.start s) p e ha hc hk s m _ below hf ((Spec.applies_iff_loose hf).mp happ).1 ⟨rfl, State.Warmed39.refl s, rfl, CHv.start (hEL hw) hcalls.1 (hsets _ (List.mem_of_getElem? (i := 2) rfl)) (w23 hw) (w5 hw)⟩ trivial
  refine ⟨n, _, h1, h2, h3, hpost _ _ _ _ _ _ ⟨Cond.after_iff.mpr rfl, Cond.after_iff.mpr (eq_i res_at (Term.int_eval (1)) rfl), trivial⟩ ⟨hq.1, hq.2.1, hq.2.2.1, (hq.2.2.2.sift fun y hy => Or.inr (N y hy)).mono (by decide) (by decide)⟩⟩
theorem main_1_1 : Claimed_1_1 := comes_1 fun _ _ _ _ _ _ h hF => ⟨h.1, hF⟩
theorem main_1_2 : Claimed_1_2 := comes_1 fun _ _ _ _ _ _ h hF => ⟨h.2.1, hF⟩
end Jvm.Pilot.@@N@@
namespace Jvm.Pilot.@@N@@
open Jvm Jvm.ClassFile Sem Op Lib Jvm.Free Jvm.Stand Jvm.Pilot.@@N@@.Jvm.D
/-! MADE BY PROGRAM (witnessworld.py) out of the Statement's table words and the real class files: 22 classes; the members and pool entries that the words name. The judged class is class 1, her method 6. -/
namespace start1
open Jvm.ClassFile
def u (s : String) : CpInfo := .utf8 (stringToUtf16 s)
/-- a pool by its gaps: so many unusable entries, then the entry; so many at the end -/
def gap : Nat → List CpInfo → List CpInfo
  | 0, r => r
  | n + 1, r => .unusable :: gap n r
def poolList (es : List (Nat × CpInfo)) (last : Nat) : List CpInfo := es.foldr (fun e r => gap e.1 (e.2 :: r)) (gap last [])
def pool (es : List (Nat × CpInfo)) (last : Nat) : Array CpInfo := ⟨poolList es last⟩
def fileOf (pool : Array CpInfo) (this : Nat) (attrs : Array Attribute := #[]) (ms : Array MethodInfo := #[]) (fl : Nat := 33) (sup : Nat := 0) (ifs : Array Nat := #[]) (fds : Array FieldInfo := #[]) : ClassFile where
  minorVersion := 0
  majorVersion := 65
  constantPool := pool
  accessFlags := fl
  thisClass := this
  superClass := sup
  interfaces := ifs
  fields := fds
  methods := ms
  attributes := attrs
def plain (name : String) (sup : Option ClassId) : Class where
  name := name
  kind := .ordinary
  loader := none
  accessFlags := 33
  super := sup
  interfaces := #[]
  cf := none
  fields := #[]
  methods := #[]
  instanceTypes := #[]
  staticTypes := #[]
  resolved := #[]
  callSites := []
  init := .initialized
  statics := none
  mirror := none

def pool0 : Array CpInfo := pool [(5, u "<init>"), (0, u "()V"), (1, .class_ 10), (1, u "java/lang/Object")] 113

def k0c0 : Code := { maxStack := 0, maxLocals := 1, code := object_method_1_code, exceptionTable := #[], attributes := #[] }
def k0m0 : Method := { name := "<init>", desc := "()V", sig := { parameters := [], returnType := none }, accessFlags := 1, code := some k0c0 }
/-- java/lang/Object -/
def k0 : Class := { plain "java/lang/Object" none with
  accessFlags := 33
  interfaces := #[]
  cf := some (fileOf pool0 8 #[] #[{ accessFlags := 1, nameIndex := 5, descriptorIndex := 6, attributes := #[] }] 33 0 #[] #[])
  fields := #[]
  methods := #[k0m0]
  instanceTypes := #[]
  staticTypes := #[]
  resolved := Array.replicate 124 none
  statics := none }

def pool1 : Array CpInfo := pool [(2, .class_ 4), (1, u "java/lang/Object"), (0, u "<init>"), (0, u "()V"), (0, .string 8), (0, u ""), (0, .class_ 10), (0, u "java/lang/String"), (0, .methodref 9 12), (0, .nameAndType 5 13), (0, u "([C)V"), (0, .class_ 15), (0, u "com/example/credence/credence/Credentials"), (0, .methodref 17 18), (0, .class_ 19), (0, .nameAndType 20 21), (0, u "com/example/credence/credence/LogonSendsNothingPinLaw"), (0, u "str"), (0, u "(I)Ljava/lang/String;"), (0, .methodref 17 23), (0, .nameAndType 24 25), (0, u "passwordCode"), (0, u "(I)I"), (0, .methodref 14 27), (0, .nameAndType 5 28), (0, u "(Ljava/lang/String;Ljava/lang/String;)V"), (0, .methodref 17 30), (0, .nameAndType 31 32), (0, u "sent"), (0, u "(I)Z"), (0, .methodref 17 34), (0, .nameAndType 35 36), (0, u "cred"), (0, u "(I)Lcom/example/credence/credence/Credentials;"), (0, .class_ 38), (0, u "com/example/credence/credence/Logon"), (0, .methodref 37 40), (0, .nameAndType 5 41), (0, u "(Ljava/lang/String;Ljava/lang/String;Lcom/example/credence/credence/Credentials;Lcom/example/credence/credence/Credentials;Ljava/lang/String;Ljava/lang/String;)V"), (0, .methodref 17 43), (0, .nameAndType 44 32), (0, u "credSent"), (0, .methodref 37 46), (0, .nameAndType 47 48), (0, u "sendsNothing"), (0, u "()Z"), (3, u "law"), (0, u "(IIIIII)Z")] 2

def k1m0 : Method := { name := "<init>", desc := "()V", sig := { parameters := [], returnType := none }, accessFlags := 1, code := none }
def k1c1 : Code := { maxStack := 6, maxLocals := 4, code := method_2_code, exceptionTable := #[], attributes := #[] }
def k1m1 : Method := { name := "str", desc := "(I)Ljava/lang/String;", sig := { parameters := [.int], returnType := some (.object "java/lang/String") }, accessFlags := 10, code := some k1c1 }
def k1c2 : Code := { maxStack := 2, maxLocals := 1, code := method_3_code, exceptionTable := #[], attributes := #[] }
def k1m2 : Method := { name := "sent", desc := "(I)Z", sig := { parameters := [.int], returnType := some .boolean }, accessFlags := 10, code := some k1c2 }
def k1c3 : Code := { maxStack := 3, maxLocals := 1, code := method_4_code, exceptionTable := #[], attributes := #[] }
def k1m3 : Method := { name := "passwordCode", desc := "(I)I", sig := { parameters := [.int], returnType := some .int }, accessFlags := 10, code := some k1c3 }
def k1c4 : Code := { maxStack := 4, maxLocals := 1, code := method_5_code, exceptionTable := #[], attributes := #[] }
def k1m4 : Method := { name := "cred", desc := "(I)Lcom/example/credence/credence/Credentials;", sig := { parameters := [.int], returnType := some (.object "com/example/credence/credence/Credentials") }, accessFlags := 10, code := some k1c4 }
def k1c5 : Code := { maxStack := 2, maxLocals := 1, code := method_6_code, exceptionTable := #[], attributes := #[] }
def k1m5 : Method := { name := "credSent", desc := "(I)Z", sig := { parameters := [.int], returnType := some .boolean }, accessFlags := 10, code := some k1c5 }
def k1c6 : Code := { maxStack := 8, maxLocals := 15, code := code, exceptionTable := #[], attributes := #[] }
def k1m6 : Method := { name := "law", desc := "(IIIIII)Z", sig := { parameters := [.int, .int, .int, .int, .int, .int], returnType := some .boolean }, accessFlags := 9, code := some k1c6 }
/-- com/example/credence/credence/LogonSendsNothingPinLaw -/
def k1 : Class := { plain "com/example/credence/credence/LogonSendsNothingPinLaw" (some 0) with
  accessFlags := 49
  interfaces := #[]
  cf := some (fileOf pool1 17 #[] #[{ accessFlags := 1, nameIndex := 5, descriptorIndex := 6, attributes := #[] }, { accessFlags := 10, nameIndex := 20, descriptorIndex := 21, attributes := #[] }, { accessFlags := 10, nameIndex := 31, descriptorIndex := 32, attributes := #[] }, { accessFlags := 10, nameIndex := 24, descriptorIndex := 25, attributes := #[] }, { accessFlags := 10, nameIndex := 35, descriptorIndex := 36, attributes := #[] }, { accessFlags := 10, nameIndex := 44, descriptorIndex := 32, attributes := #[] }, { accessFlags := 9, nameIndex := 52, descriptorIndex := 53, attributes := #[] }] 49 2 #[] #[])
  fields := #[]
  methods := #[k1m0, k1m1, k1m2, k1m3, k1m4, k1m5, k1m6]
  instanceTypes := #[]
  staticTypes := #[]
  resolved := Array.replicate 56 none
  statics := none }

def pool2 : Array CpInfo := pool [(1, .class_ 2), (0, u "java/io/Serializable"), (0, .class_ 4), (0, u "java/lang/Object")] 2

/-- java/io/Serializable -/
def k2 : Class := { plain "java/io/Serializable" (some 0) with
  accessFlags := 1537
  interfaces := #[]
  cf := some (fileOf pool2 1 #[] #[] 1537 3 #[] #[])
  fields := #[]
  methods := #[]
  instanceTypes := #[]
  staticTypes := #[]
  resolved := Array.replicate 7 none
  statics := none }

def pool3 : Array CpInfo := pool [(1, .class_ 2), (0, u "java/lang/Comparable"), (0, .class_ 4), (0, u "java/lang/Object")] 7

/-- java/lang/Comparable -/
def k3 : Class := { plain "java/lang/Comparable" (some 0) with
  accessFlags := 1537
  interfaces := #[]
  cf := some (fileOf pool3 1 #[] #[] 1537 3 #[] #[])
  fields := #[]
  methods := #[]
  instanceTypes := #[]
  staticTypes := #[]
  resolved := Array.replicate 12 none
  statics := none }

def pool4 : Array CpInfo := pool [(2, .class_ 4), (1, u "java/lang/CharSequence"), (42, .class_ 48), (0, u "java/lang/CharSequence$1CodePointIterator"), (10, .class_ 60), (0, u "java/lang/CharSequence$1CharIterator"), (5, .class_ 67), (0, u "java/lang/Object")] 63

/-- java/lang/CharSequence -/
def k4 : Class := { plain "java/lang/CharSequence" (some 0) with
  accessFlags := 1537
  interfaces := #[]
  cf := some (fileOf pool4 2 #[.nestMembers #[47, 59]] #[] 1537 66 #[] #[])
  fields := #[]
  methods := #[]
  instanceTypes := #[]
  staticTypes := #[]
  resolved := Array.replicate 131 none
  statics := none }

def pool5 : Array CpInfo := pool [(1, .class_ 2), (0, u "java/lang/constant/Constable"), (0, .class_ 4), (0, u "java/lang/Object")] 6

/-- java/lang/constant/Constable -/
def k5 : Class := { plain "java/lang/constant/Constable" (some 0) with
  accessFlags := 1537
  interfaces := #[]
  cf := some (fileOf pool5 1 #[] #[] 1537 3 #[] #[])
  fields := #[]
  methods := #[]
  instanceTypes := #[]
  staticTypes := #[]
  resolved := Array.replicate 11 none
  statics := none }

def pool6 : Array CpInfo := pool [(1, .class_ 2), (0, u "java/lang/constant/ConstantDesc"), (0, .class_ 4), (0, u "java/lang/Object")] 32

/-- java/lang/constant/ConstantDesc -/
def k6 : Class := { plain "java/lang/constant/ConstantDesc" (some 0) with
  accessFlags := 1537
  interfaces := #[]
  cf := some (fileOf pool6 1 #[] #[] 1537 3 #[] #[])
  fields := #[]
  methods := #[]
  instanceTypes := #[]
  staticTypes := #[]
  resolved := Array.replicate 37 none
  statics := none }

def pool7 : Array CpInfo := pool [(1, .methodref 2 3), (0, .class_ 4), (0, .nameAndType 5 6), (0, u "java/lang/Object"), (0, u "<init>"), (0, u "()V"), (2, .fieldref 10 11), (0, .class_ 12), (0, .nameAndType 13 14), (0, u "java/lang/String"), (0, u "value"), (0, u "[B"), (0, .fieldref 10 16), (0, .nameAndType 17 18), (0, u "coder"), (0, u "B"), (2, u "hash"), (0, u "I"), (2, u "hashIsZero"), (0, u "Z"), (0, .methodref 10 28), (0, .nameAndType 5 29), (0, u "([CIILjava/lang/Void;)V"), (8, .fieldref 10 39), (0, .nameAndType 40 26), (0, u "COMPACT_STRINGS"), (1, .class_ 44), (1, u "java/lang/StringUTF16"), (0, u "compress"), (1, .methodref 42 48), (0, .nameAndType 49 50), (0, u "coderFromArrayLen"), (0, u "([BI)B"), (91, u "()Z"), (34, .methodref 42 178), (0, .nameAndType 45 179), (0, u "([CII)[B"), (395, .class_ 576), (0, u "java/lang/CharSequence"), (22, u "CASE_INSENSITIVE_ORDER"), (0, u "Ljava/util/Comparator;"), (91, u "isEmpty"), (317, u "([C)V"), (90, u "serialPersistentFields"), (0, u "[Ljava/io/ObjectStreamField;"), (0, .class_ 1104), (0, u "java/lang/String$CaseInsensitiveComparator"), (1, .class_ 1107), (0, u "java/io/Serializable"), (0, .class_ 1109), (0, u "java/lang/Comparable"), (0, .class_ 1111), (0, u "java/lang/constant/Constable"), (0, .class_ 1113), (0, u "java/lang/constant/ConstantDesc"), (2, u "serialVersionUID"), (0, u "J"), (3, u "REPL"), (0, u "C"), (2, u "LATIN1"), (1, u "UTF16")] 323

def k7m0 : Method := { name := "<init>", desc := "()V", sig := { parameters := [], returnType := none }, accessFlags := 1, code := none }
def k7c1 : Code := { maxStack := 5, maxLocals := 2, code := jdk_42_method_3_code, exceptionTable := #[], attributes := #[] }
def k7m1 : Method := { name := "<init>", desc := "([C)V", sig := { parameters := [(.array .char)], returnType := none }, accessFlags := 1, code := some k7c1 }
def k7c2 : Code := { maxStack := 1, maxLocals := 1, code := jdk_42_method_55_code, exceptionTable := #[], attributes := #[] }
def k7m2 : Method := { name := "isEmpty", desc := "()Z", sig := { parameters := [], returnType := some .boolean }, accessFlags := 1, code := some k7c2 }
def k7c3 : Code := { maxStack := 4, maxLocals := 6, code := jdk_42_method_149_code, exceptionTable := #[], attributes := #[] }
def k7m3 : Method := { name := "<init>", desc := "([CIILjava/lang/Void;)V", sig := { parameters := [(.array .char), .int, .int, (.object "java/lang/Void")], returnType := none }, accessFlags := 2, code := some k7c3 }
/-- java/lang/String -/
def k7 : Class := { plain "java/lang/String" (some 0) with
  accessFlags := 49
  interfaces := #[2, 3, 4, 5, 6]
  cf := some (fileOf pool7 10 #[.nestMembers #[1103]] #[{ accessFlags := 1, nameIndex := 5, descriptorIndex := 6, attributes := #[] }, { accessFlags := 1, nameIndex := 5, descriptorIndex := 1010, attributes := #[] }, { accessFlags := 1, nameIndex := 692, descriptorIndex := 142, attributes := #[] }, { accessFlags := 2, nameIndex := 5, descriptorIndex := 29, attributes := #[] }] 49 2 #[1106, 1108, 575, 1110, 1112] #[{ accessFlags := 18, nameIndex := 13, descriptorIndex := 14, attributes := #[] }, { accessFlags := 18, nameIndex := 17, descriptorIndex := 18, attributes := #[] }, { accessFlags := 2, nameIndex := 21, descriptorIndex := 22, attributes := #[] }, { accessFlags := 2, nameIndex := 25, descriptorIndex := 26, attributes := #[] }, { accessFlags := 26, nameIndex := 1116, descriptorIndex := 1117, attributes := #[] }, { accessFlags := 24, nameIndex := 40, descriptorIndex := 26, attributes := #[] }, { accessFlags := 26, nameIndex := 1101, descriptorIndex := 1102, attributes := #[] }, { accessFlags := 26, nameIndex := 1121, descriptorIndex := 1122, attributes := #[] }, { accessFlags := 25, nameIndex := 599, descriptorIndex := 600, attributes := #[] }, { accessFlags := 24, nameIndex := 1125, descriptorIndex := 18, attributes := #[] }, { accessFlags := 24, nameIndex := 1127, descriptorIndex := 18, attributes := #[] }])
  fields := #[{ name := "value", type := (.array .byte), accessFlags := 18, slot := 0, constantValue := 0 }, { name := "coder", type := .byte, accessFlags := 18, slot := 1, constantValue := 0 }, { name := "hash", type := .int, accessFlags := 2, slot := 2, constantValue := 0 }, { name := "hashIsZero", type := .boolean, accessFlags := 2, slot := 3, constantValue := 0 }, { name := "serialVersionUID", type := .long, accessFlags := 26, slot := 0, constantValue := 0 }, { name := "COMPACT_STRINGS", type := .boolean, accessFlags := 24, slot := 1, constantValue := 0 }, { name := "serialPersistentFields", type := (.array (.object "java/io/ObjectStreamField")), accessFlags := 26, slot := 2, constantValue := 0 }, { name := "REPL", type := .char, accessFlags := 26, slot := 3, constantValue := 0 }, { name := "CASE_INSENSITIVE_ORDER", type := (.object "java/util/Comparator"), accessFlags := 25, slot := 4, constantValue := 0 }, { name := "LATIN1", type := .byte, accessFlags := 24, slot := 5, constantValue := 0 }, { name := "UTF16", type := .byte, accessFlags := 24, slot := 6, constantValue := 0 }]
  methods := #[k7m0, k7m1, k7m2, k7m3]
  instanceTypes := #[(.array .byte), .byte, .int, .boolean]
  staticTypes := #[.long, .boolean, (.array (.object "java/io/ObjectStreamField")), .char, (.object "java/util/Comparator"), .byte, .byte]
  resolved := Array.replicate 1451 none
  statics := some 0 }

def pool8 : Array CpInfo := pool [(6, .class_ 8), (1, u "java/lang/Object"), (0, u "<init>"), (0, u "()V"), (1, .class_ 14), (1, u "java/lang/StringUTF16"), (31, u "$assertionsDisabled"), (0, u "Z"), (13, u "HI_BYTE_SHIFT"), (0, u "I"), (2, u "LO_BYTE_SHIFT"), (49, .methodref 12 116), (0, .nameAndType 117 118), (0, u "compress"), (0, u "([CI[BII)I"), (3, u "([CII)[B"), (138, u "coderFromArrayLen"), (0, u "([BI)B"), (106, .class_ 371), (1, u "java/lang/StringUTF16$LinesSpliterator"), (58, u "MAX_LENGTH"), (196, .class_ 628), (0, u "java/lang/StringUTF16$CodePointsSpliterator"), (0, .class_ 630), (0, u "java/lang/StringUTF16$CharsSpliterator")] 4

def k8m0 : Method := { name := "<init>", desc := "()V", sig := { parameters := [], returnType := none }, accessFlags := 0, code := none }
def k8c1 : Code := { maxStack := 2, maxLocals := 2, code := jdk_52_method_15_code, exceptionTable := #[], attributes := #[] }
def k8m1 : Method := { name := "coderFromArrayLen", desc := "([BI)B", sig := { parameters := [(.array .byte), .int], returnType := some .byte }, accessFlags := 8, code := some k8c1 }
def k8c2 : Code := { maxStack := 5, maxLocals := 6, code := jdk_52_method_16_code, exceptionTable := #[], attributes := #[] }
def k8m2 : Method := { name := "compress", desc := "([CII)[B", sig := { parameters := [(.array .char), .int, .int], returnType := some (.array .byte) }, accessFlags := 9, code := some k8c2 }
def k8c3 : Code := { maxStack := 3, maxLocals := 7, code := jdk_52_method_21_code, exceptionTable := #[], attributes := #[] }
def k8m3 : Method := { name := "compress", desc := "([CI[BII)I", sig := { parameters := [(.array .char), .int, (.array .byte), .int, .int], returnType := some .int }, accessFlags := 9, code := some k8c3 }
/-- java/lang/StringUTF16 -/
def k8 : Class := { plain "java/lang/StringUTF16" (some 0) with
  accessFlags := 48
  interfaces := #[]
  cf := some (fileOf pool8 12 #[.nestMembers #[627, 629, 369]] #[{ accessFlags := 0, nameIndex := 9, descriptorIndex := 10, attributes := #[] }, { accessFlags := 8, nameIndex := 261, descriptorIndex := 262, attributes := #[] }, { accessFlags := 9, nameIndex := 117, descriptorIndex := 122, attributes := #[] }, { accessFlags := 9, nameIndex := 117, descriptorIndex := 118, attributes := #[] }] 48 6 #[] #[{ accessFlags := 26, nameIndex := 61, descriptorIndex := 62, attributes := #[] }, { accessFlags := 26, nameIndex := 65, descriptorIndex := 62, attributes := #[] }, { accessFlags := 24, nameIndex := 430, descriptorIndex := 62, attributes := #[] }, { accessFlags := 4120, nameIndex := 46, descriptorIndex := 47, attributes := #[] }])
  fields := #[{ name := "HI_BYTE_SHIFT", type := .int, accessFlags := 26, slot := 0, constantValue := 0 }, { name := "LO_BYTE_SHIFT", type := .int, accessFlags := 26, slot := 1, constantValue := 0 }, { name := "MAX_LENGTH", type := .int, accessFlags := 24, slot := 2, constantValue := 0 }, { name := "$assertionsDisabled", type := .boolean, accessFlags := 4120, slot := 3, constantValue := 0 }]
  methods := #[k8m0, k8m1, k8m2, k8m3]
  instanceTypes := #[]
  staticTypes := #[.int, .int, .int, .boolean]
  resolved := Array.replicate 635 none
  statics := none }

def pool9 : Array CpInfo := pool [(1, .methodref 2 3), (0, .class_ 4), (0, .nameAndType 5 6), (0, u "java/lang/Object"), (0, u "<init>"), (0, u "()V"), (0, .class_ 8), (0, u "java/lang/Record")] 13

def k9c0 : Code := { maxStack := 1, maxLocals := 1, code := jdk_30_method_1_code, exceptionTable := #[], attributes := #[] }
def k9m0 : Method := { name := "<init>", desc := "()V", sig := { parameters := [], returnType := none }, accessFlags := 4, code := some k9c0 }
/-- java/lang/Record -/
def k9 : Class := { plain "java/lang/Record" (some 0) with
  accessFlags := 1057
  interfaces := #[]
  cf := some (fileOf pool9 7 #[] #[{ accessFlags := 4, nameIndex := 5, descriptorIndex := 6, attributes := #[] }] 1057 2 #[] #[])
  fields := #[]
  methods := #[k9m0]
  instanceTypes := #[]
  staticTypes := #[]
  resolved := Array.replicate 22 none
  statics := none }

def pool10 : Array CpInfo := pool [(1, .methodref 2 3), (0, .class_ 4), (0, .nameAndType 5 6), (0, u "java/lang/Record"), (0, u "<init>"), (0, u "()V"), (0, .fieldref 8 9), (0, .class_ 10), (0, .nameAndType 11 12), (0, u "com/example/credence/credence/Credentials"), (0, u "username"), (0, u "Ljava/lang/String;"), (0, .fieldref 8 14), (0, .nameAndType 15 12), (0, u "password"), (0, .methodref 17 18), (0, .class_ 19), (0, .nameAndType 20 21), (0, u "java/lang/String"), (0, u "isEmpty"), (0, u "()Z"), (12, u "(Ljava/lang/String;Ljava/lang/String;)V"), (5, u "blank")] 33

def k10c0 : Code := { maxStack := 2, maxLocals := 3, code := prog_3_method_1_code, exceptionTable := #[], attributes := #[] }
def k10m0 : Method := { name := "<init>", desc := "(Ljava/lang/String;Ljava/lang/String;)V", sig := { parameters := [(.object "java/lang/String"), (.object "java/lang/String")], returnType := none }, accessFlags := 1, code := some k10c0 }
def k10c1 : Code := { maxStack := 1, maxLocals := 1, code := prog_3_method_3_code, exceptionTable := #[], attributes := #[] }
def k10m1 : Method := { name := "blank", desc := "()Z", sig := { parameters := [], returnType := some .boolean }, accessFlags := 0, code := some k10c1 }
/-- com/example/credence/credence/Credentials -/
def k10 : Class := { plain "com/example/credence/credence/Credentials" (some 9) with
  accessFlags := 49
  interfaces := #[]
  cf := some (fileOf pool10 8 #[] #[{ accessFlags := 1, nameIndex := 5, descriptorIndex := 34, attributes := #[] }, { accessFlags := 0, nameIndex := 40, descriptorIndex := 21, attributes := #[] }] 49 2 #[] #[{ accessFlags := 18, nameIndex := 11, descriptorIndex := 12, attributes := #[] }, { accessFlags := 18, nameIndex := 15, descriptorIndex := 12, attributes := #[] }])
  fields := #[{ name := "username", type := (.object "java/lang/String"), accessFlags := 18, slot := 0, constantValue := 0 }, { name := "password", type := (.object "java/lang/String"), accessFlags := 18, slot := 1, constantValue := 0 }]
  methods := #[k10m0, k10m1]
  instanceTypes := #[(.object "java/lang/String"), (.object "java/lang/String")]
  staticTypes := #[]
  resolved := Array.replicate 74 none
  statics := none }

def pool11 : Array CpInfo := pool [(1, .methodref 2 3), (0, .class_ 4), (0, .nameAndType 5 6), (0, u "java/lang/Record"), (0, u "<init>"), (0, u "()V"), (0, .fieldref 8 9), (0, .class_ 10), (0, .nameAndType 11 12), (0, u "com/example/credence/credence/Logon"), (0, u "namespace"), (0, u "Ljava/lang/String;"), (0, .fieldref 8 14), (0, .nameAndType 15 12), (0, u "trustedCredential"), (0, .fieldref 8 17), (0, .nameAndType 18 19), (0, u "credentials"), (0, u "Lcom/example/credence/credence/Credentials;"), (0, .fieldref 8 21), (0, .nameAndType 22 19), (0, u "form"), (0, .fieldref 8 24), (0, .nameAndType 25 12), (0, u "token"), (0, .fieldref 8 27), (0, .nameAndType 28 12), (0, u "trusted"), (2, u "(Ljava/lang/String;Ljava/lang/String;Lcom/example/credence/credence/Credentials;Lcom/example/credence/credence/Credentials;Ljava/lang/String;Ljava/lang/String;)V"), (1, .class_ 35), (1, u "com/example/credence/credence/Credentials"), (1, u "()Z"), (0, .methodref 39 40), (0, .class_ 41), (0, .nameAndType 42 37), (0, u "java/lang/String"), (0, u "isEmpty"), (0, .methodref 33 44), (0, .nameAndType 45 37), (0, u "blank"), (25, u "sendsNothing")] 37

def k11c0 : Code := { maxStack := 2, maxLocals := 7, code := prog_4_method_4_code, exceptionTable := #[], attributes := #[] }
def k11m0 : Method := { name := "<init>", desc := "(Ljava/lang/String;Ljava/lang/String;Lcom/example/credence/credence/Credentials;Lcom/example/credence/credence/Credentials;Ljava/lang/String;Ljava/lang/String;)V", sig := { parameters := [(.object "java/lang/String"), (.object "java/lang/String"), (.object "com/example/credence/credence/Credentials"), (.object "com/example/credence/credence/Credentials"), (.object "java/lang/String"), (.object "java/lang/String")], returnType := none }, accessFlags := 1, code := some k11c0 }
def k11c1 : Code := { maxStack := 1, maxLocals := 1, code := prog_4_method_6_code, exceptionTable := #[], attributes := #[] }
def k11m1 : Method := { name := "sendsNothing", desc := "()Z", sig := { parameters := [], returnType := some .boolean }, accessFlags := 0, code := some k11c1 }
/-- com/example/credence/credence/Logon -/
def k11 : Class := { plain "com/example/credence/credence/Logon" (some 9) with
  accessFlags := 49
  interfaces := #[]
  cf := some (fileOf pool11 8 #[] #[{ accessFlags := 1, nameIndex := 5, descriptorIndex := 31, attributes := #[] }, { accessFlags := 0, nameIndex := 71, descriptorIndex := 37, attributes := #[] }] 49 2 #[] #[{ accessFlags := 18, nameIndex := 11, descriptorIndex := 12, attributes := #[] }, { accessFlags := 18, nameIndex := 15, descriptorIndex := 12, attributes := #[] }, { accessFlags := 18, nameIndex := 18, descriptorIndex := 19, attributes := #[] }, { accessFlags := 18, nameIndex := 22, descriptorIndex := 19, attributes := #[] }, { accessFlags := 18, nameIndex := 25, descriptorIndex := 12, attributes := #[] }, { accessFlags := 18, nameIndex := 28, descriptorIndex := 12, attributes := #[] }])
  fields := #[{ name := "namespace", type := (.object "java/lang/String"), accessFlags := 18, slot := 0, constantValue := 0 }, { name := "trustedCredential", type := (.object "java/lang/String"), accessFlags := 18, slot := 1, constantValue := 0 }, { name := "credentials", type := (.object "com/example/credence/credence/Credentials"), accessFlags := 18, slot := 2, constantValue := 0 }, { name := "form", type := (.object "com/example/credence/credence/Credentials"), accessFlags := 18, slot := 3, constantValue := 0 }, { name := "token", type := (.object "java/lang/String"), accessFlags := 18, slot := 4, constantValue := 0 }, { name := "trusted", type := (.object "java/lang/String"), accessFlags := 18, slot := 5, constantValue := 0 }]
  methods := #[k11m0, k11m1]
  instanceTypes := #[(.object "java/lang/String"), (.object "java/lang/String"), (.object "com/example/credence/credence/Credentials"), (.object "com/example/credence/credence/Credentials"), (.object "java/lang/String"), (.object "java/lang/String")]
  staticTypes := #[]
  resolved := Array.replicate 109 none
  statics := none }

def pool12 : Array CpInfo := pool [(4, .class_ 6), (1, u "java/lang/Object"), (0, u "<init>"), (0, u "()V"), (5, .class_ 16), (1, u "java/lang/StringLatin1"), (104, u "$assertionsDisabled"), (0, u "Z"), (98, .class_ 223), (1, u "java/lang/StringLatin1$LinesSpliterator"), (166, .class_ 391), (0, u "java/lang/StringLatin1$CharsSpliterator")] 3

def k12m0 : Method := { name := "<init>", desc := "()V", sig := { parameters := [], returnType := none }, accessFlags := 0, code := none }
/-- java/lang/StringLatin1 -/
def k12 : Class := { plain "java/lang/StringLatin1" (some 0) with
  accessFlags := 48
  interfaces := #[]
  cf := some (fileOf pool12 14 #[.nestMembers #[390, 221]] #[{ accessFlags := 0, nameIndex := 7, descriptorIndex := 8, attributes := #[] }] 48 4 #[] #[{ accessFlags := 4120, nameIndex := 121, descriptorIndex := 122, attributes := #[] }])
  fields := #[{ name := "$assertionsDisabled", type := .boolean, accessFlags := 4120, slot := 0, constantValue := 0 }]
  methods := #[k12m0]
  instanceTypes := #[]
  staticTypes := #[.boolean]
  resolved := Array.replicate 395 none
  statics := none }

def pool13 : Array CpInfo := pool [(2, .class_ 4), (1, u "java/lang/Object"), (0, u "<init>"), (0, u "()V"), (17, .class_ 26), (1, u "jdk/internal/util/Preconditions"), (28, .class_ 56), (0, u "jdk/internal/util/Preconditions$4"), (57, .class_ 115), (0, u "jdk/internal/util/Preconditions$1"), (7, u "SIOOBE_FORMATTER"), (0, u "Ljava/util/function/BiFunction;"), (0, .class_ 126), (0, u "jdk/internal/util/Preconditions$2"), (3, u "AIOOBE_FORMATTER"), (0, .class_ 132), (0, u "jdk/internal/util/Preconditions$3"), (3, u "IOOBE_FORMATTER")] 57

def k13m0 : Method := { name := "<init>", desc := "()V", sig := { parameters := [], returnType := none }, accessFlags := 1, code := none }
/-- jdk/internal/util/Preconditions -/
def k13 : Class := { plain "jdk/internal/util/Preconditions" (some 0) with
  accessFlags := 33
  interfaces := #[]
  cf := some (fileOf pool13 24 #[.nestMembers #[55, 131, 125, 114]] #[{ accessFlags := 1, nameIndex := 5, descriptorIndex := 6, attributes := #[] }] 33 2 #[] #[{ accessFlags := 25, nameIndex := 123, descriptorIndex := 124, attributes := #[] }, { accessFlags := 25, nameIndex := 130, descriptorIndex := 124, attributes := #[] }, { accessFlags := 25, nameIndex := 136, descriptorIndex := 124, attributes := #[] }])
  fields := #[{ name := "SIOOBE_FORMATTER", type := (.object "java/util/function/BiFunction"), accessFlags := 25, slot := 0, constantValue := 0 }, { name := "AIOOBE_FORMATTER", type := (.object "java/util/function/BiFunction"), accessFlags := 25, slot := 1, constantValue := 0 }, { name := "IOOBE_FORMATTER", type := (.object "java/util/function/BiFunction"), accessFlags := 25, slot := 2, constantValue := 0 }]
  methods := #[k13m0]
  instanceTypes := #[]
  staticTypes := #[(.object "java/util/function/BiFunction"), (.object "java/util/function/BiFunction"), (.object "java/util/function/BiFunction")]
  resolved := Array.replicate 194 none
  statics := some 1 }

def pool14 : Array CpInfo := pool [(9, u "<init>"), (6, .class_ 18), (1, u "java/lang/Object"), (0, u "()V"), (1, .class_ 23), (1, u "jdk/internal/util/ArraysSupport"), (0, u "LOG2_ARRAY_LONG_INDEX_SCALE"), (0, u "I"), (2, u "U"), (0, u "Ljdk/internal/misc/Unsafe;"), (8, u "BIG_ENDIAN"), (0, u "Z"), (8, u "LOG2_BYTE_BIT_SIZE"), (4, u "LOG2_ARRAY_INT_INDEX_SCALE"), (54, u "JLA"), (0, u "Ljdk/internal/access/JavaLangAccess;"), (11, u "LOG2_ARRAY_BOOLEAN_INDEX_SCALE"), (9, u "LOG2_ARRAY_BYTE_INDEX_SCALE"), (5, u "LOG2_ARRAY_CHAR_INDEX_SCALE"), (5, u "LOG2_ARRAY_SHORT_INDEX_SCALE"), (18, u "LOG2_ARRAY_FLOAT_INDEX_SCALE"), (24, u "LOG2_ARRAY_DOUBLE_INDEX_SCALE"), (89, u "T_BOOLEAN"), (2, u "T_CHAR"), (1, u "T_FLOAT"), (1, u "T_DOUBLE"), (1, u "T_BYTE"), (1, u "T_SHORT"), (1, u "T_INT"), (1, u "T_LONG"), (1, u "SOFT_MAX_ARRAY_LENGTH")] 83

def k14m0 : Method := { name := "<init>", desc := "()V", sig := { parameters := [], returnType := none }, accessFlags := 2, code := none }
/-- jdk/internal/util/ArraysSupport -/
def k14 : Class := { plain "jdk/internal/util/ArraysSupport" (some 0) with
  accessFlags := 33
  interfaces := #[]
  cf := some (fileOf pool14 21 #[] #[{ accessFlags := 2, nameIndex := 9, descriptorIndex := 19, attributes := #[] }] 33 16 #[] #[{ accessFlags := 24, nameIndex := 28, descriptorIndex := 29, attributes := #[] }, { accessFlags := 26, nameIndex := 38, descriptorIndex := 39, attributes := #[] }, { accessFlags := 25, nameIndex := 121, descriptorIndex := 25, attributes := #[] }, { accessFlags := 25, nameIndex := 131, descriptorIndex := 25, attributes := #[] }, { accessFlags := 25, nameIndex := 137, descriptorIndex := 25, attributes := #[] }, { accessFlags := 25, nameIndex := 143, descriptorIndex := 25, attributes := #[] }, { accessFlags := 25, nameIndex := 53, descriptorIndex := 25, attributes := #[] }, { accessFlags := 25, nameIndex := 24, descriptorIndex := 25, attributes := #[] }, { accessFlags := 25, nameIndex := 162, descriptorIndex := 25, attributes := #[] }, { accessFlags := 25, nameIndex := 187, descriptorIndex := 25, attributes := #[] }, { accessFlags := 26, nameIndex := 48, descriptorIndex := 25, attributes := #[] }, { accessFlags := 25, nameIndex := 277, descriptorIndex := 25, attributes := #[] }, { accessFlags := 25, nameIndex := 280, descriptorIndex := 25, attributes := #[] }, { accessFlags := 25, nameIndex := 282, descriptorIndex := 25, attributes := #[] }, { accessFlags := 25, nameIndex := 284, descriptorIndex := 25, attributes := #[] }, { accessFlags := 25, nameIndex := 286, descriptorIndex := 25, attributes := #[] }, { accessFlags := 25, nameIndex := 288, descriptorIndex := 25, attributes := #[] }, { accessFlags := 25, nameIndex := 290, descriptorIndex := 25, attributes := #[] }, { accessFlags := 25, nameIndex := 292, descriptorIndex := 25, attributes := #[] }, { accessFlags := 26, nameIndex := 108, descriptorIndex := 109, attributes := #[] }, { accessFlags := 25, nameIndex := 294, descriptorIndex := 25, attributes := #[] }])
  fields := #[{ name := "U", type := (.object "jdk/internal/misc/Unsafe"), accessFlags := 24, slot := 0, constantValue := 0 }, { name := "BIG_ENDIAN", type := .boolean, accessFlags := 26, slot := 1, constantValue := 0 }, { name := "LOG2_ARRAY_BOOLEAN_INDEX_SCALE", type := .int, accessFlags := 25, slot := 2, constantValue := 0 }, { name := "LOG2_ARRAY_BYTE_INDEX_SCALE", type := .int, accessFlags := 25, slot := 3, constantValue := 0 }, { name := "LOG2_ARRAY_CHAR_INDEX_SCALE", type := .int, accessFlags := 25, slot := 4, constantValue := 0 }, { name := "LOG2_ARRAY_SHORT_INDEX_SCALE", type := .int, accessFlags := 25, slot := 5, constantValue := 0 }, { name := "LOG2_ARRAY_INT_INDEX_SCALE", type := .int, accessFlags := 25, slot := 6, constantValue := 0 }, { name := "LOG2_ARRAY_LONG_INDEX_SCALE", type := .int, accessFlags := 25, slot := 7, constantValue := 0 }, { name := "LOG2_ARRAY_FLOAT_INDEX_SCALE", type := .int, accessFlags := 25, slot := 8, constantValue := 0 }, { name := "LOG2_ARRAY_DOUBLE_INDEX_SCALE", type := .int, accessFlags := 25, slot := 9, constantValue := 0 }, { name := "LOG2_BYTE_BIT_SIZE", type := .int, accessFlags := 26, slot := 10, constantValue := 0 }, { name := "T_BOOLEAN", type := .int, accessFlags := 25, slot := 11, constantValue := 0 }, { name := "T_CHAR", type := .int, accessFlags := 25, slot := 12, constantValue := 0 }, { name := "T_FLOAT", type := .int, accessFlags := 25, slot := 13, constantValue := 0 }, { name := "T_DOUBLE", type := .int, accessFlags := 25, slot := 14, constantValue := 0 }, { name := "T_BYTE", type := .int, accessFlags := 25, slot := 15, constantValue := 0 }, { name := "T_SHORT", type := .int, accessFlags := 25, slot := 16, constantValue := 0 }, { name := "T_INT", type := .int, accessFlags := 25, slot := 17, constantValue := 0 }, { name := "T_LONG", type := .int, accessFlags := 25, slot := 18, constantValue := 0 }, { name := "JLA", type := (.object "jdk/internal/access/JavaLangAccess"), accessFlags := 26, slot := 19, constantValue := 0 }, { name := "SOFT_MAX_ARRAY_LENGTH", type := .int, accessFlags := 25, slot := 20, constantValue := 0 }]
  methods := #[k14m0]
  instanceTypes := #[]
  staticTypes := #[(.object "jdk/internal/misc/Unsafe"), .boolean, .int, .int, .int, .int, .int, .int, .int, .int, .int, .int, .int, .int, .int, .int, .int, .int, .int, (.object "jdk/internal/access/JavaLangAccess"), .int]
  resolved := Array.replicate 378 none
  statics := none }

def pool15 : Array CpInfo := pool [(1, u "java/lang/Cloneable"), (0, .class_ 1), (0, u "java/lang/Object"), (0, .class_ 3)] 3

/-- java/lang/Cloneable -/
def k15 : Class := { plain "java/lang/Cloneable" (some 0) with
  accessFlags := 1537
  interfaces := #[]
  cf := some (fileOf pool15 2 #[] #[] 1537 4 #[] #[])
  fields := #[]
  methods := #[]
  instanceTypes := #[]
  staticTypes := #[]
  resolved := Array.replicate 8 none
  statics := none }

/-- the primitive byte -/
def k16 : Class := { plain "byte" none with kind := .primitive 'B', accessFlags := 0x411 }
/-- [B -/
def k17 : Class := { plain "[B" (some 0) with kind := .array 16 .byte, interfaces := #[15, 2], accessFlags := 1041 }

/-- the primitive char -/
def k18 : Class := { plain "char" none with kind := .primitive 'C', accessFlags := 0x411 }
/-- [C -/
def k19 : Class := { plain "[C" (some 0) with kind := .array 18 .char, interfaces := #[15, 2], accessFlags := 1041 }

/-- the primitive int -/
def k20 : Class := { plain "int" none with kind := .primitive 'I', accessFlags := 0x411 }
/-- [I -/
def k21 : Class := { plain "[I" (some 0) with kind := .array 20 .int, interfaces := #[15, 2], accessFlags := 1041 }

def heap : Heap := #[{ cls := 7, slots := #[.long 0, .int 1, .null, .int 0, .null, .int 0, .int 0], vm := .statics 7 },
  { cls := 13, slots := #[.null, .null, .null], vm := .statics 13 }]
def classes : Array Class := #[k0, k1, k2, k3, k4, k5, k6, k7, k8, k9, k10, k11, k12, k13, k14, k15, k16, k17, k18, k19, k20, k21]
def interned : List (Array UInt16 × Addr) := []
def slotsUsed : Nat := 10
def theMethod : MethodId := ⟨1, 6⟩
def args0 : Array Value := #[.int 5, .int 7, .int 1, .int 2, .int 3, .int 3]
def aboutOver (below : List Frame) : State where
  vm := { classes := classes, interned := interned.toArray }
  heap := heap
  slotsUsed := slotsUsed
  threads := #[{ frames := .invoking theMethod args0 :: below }]
def below0 : List Frame := [.native { method := ⟨0, 0⟩, args := #[] }]
def about1 : State := aboutOver below0
def p0 : Program := .bare "" "" ""
def e0 : Env := launch0.env 0 0 0
theorem w_frames : about1.frames = Frame.invoking theMethod args0 :: below0 := rfl
set_option maxRecDepth 65536 in
theorem w_args : argsFit about1.vm theMethod args0 = true := by decide +kernel
set_option maxRecDepth 65536 in
theorem w_heap : heapFits about1 = true := by decide +kernel
set_option maxRecDepth 65536 in
theorem w_runnable : about1.curStatus? = some .runnable := by decide +kernel
set_option maxRecDepth 65536 in
theorem w_alone : about1.alone = true := by decide +kernel
set_option maxRecDepth 65536 in
theorem w_named : about1.methodNamed? x = some theMethod := by decide +kernel
set_option maxRecDepth 65536 in
theorem w_hears : about1.hears theMethod below0 = true := by decide +kernel
set_option maxRecDepth 65536 in
theorem w_ripe : about1.ripe theMethod args0 below0 = true := by decide +kernel
theorem w_running : about1.status = .running := rfl
set_option maxRecDepth 65536 in
theorem w_room : about1.hasRoom e0.platform room_1 = true :=
  launch0.hasRoom_least _ room_1 (by decide +kernel) (by decide +kernel) (by decide +kernel) (by decide +kernel) (by decide +kernel) (by decide +kernel)
theorem allAtoms_all (ts : List Jvm.Cond) (a : Array Jvm.Value) (st : Jvm.State) : (allAtoms ts).before a st = ts.all (fun c => c.before a st) := by
  induction ts with
  | nil => rfl
  | cons c t ih =>
    show (Jvm.Cond.and c (allAtoms t)).before a st = _
    rw [Jvm.Cond.before_and, ih, List.all_cons]
def words1 : List Jvm.Cond := Jvm.Cond.code x code maxLocals ret :: tables_1
/-- a 'code' word, met by the world's own term for the bytes: nothing is compared byte by byte -/
theorem code_word {y : MethodName} {bytes : ByteArray} {mx : Nat} {rt : Option FieldType} {a : Array Value} {s : State} {m : MethodId} {meth : Method} {c : Code} (h1 : s.methodNamed? y = some m) (h2 : s.vm.method? m = some meth) (h3 : meth.code = some c) (h4 : c.code = bytes)
    (h5 : (c.maxLocals == mx && c.exceptionTable.isEmpty && decide (c.maxStack ≤ mostOperands) && decide (meth.sig.returnType = rt) && !meth.locks && decide (parseMethodDescriptor y.desc = some meth.sig)) = true) : (Jvm.Cond.code y bytes mx rt).before a s = true := by
  simp only [Bool.and_eq_true, beq_iff_eq, Bool.not_eq_true', decide_eq_true_eq] at h5
  obtain ⟨⟨⟨⟨⟨g1, g2⟩, g3⟩, g4⟩, g5⟩, g6⟩ := h5
  simp [Cond.before, Cond.holds, Cond.value, h1, h2, h3, h4, g1, g2, g3, g4, g5, g6]
def isCode : Jvm.Cond → Bool
  | .code _ _ _ _ => true
  | _ => false
theorem all_split {L : List Jvm.Cond} {P : Jvm.Cond → Bool} (h1 : L.all (fun c => isCode c || P c) = true) (h2 : ∀ c ∈ L.filter isCode, P c = true) : L.all P = true := by
  refine List.all_eq_true.mpr fun c hc => ?_
  have h := List.all_eq_true.mp h1 c hc
  rcases Bool.eq_false_or_eq_true (isCode c) with hi | hi
  · exact h2 c (List.mem_filter.mpr ⟨hc, hi⟩)
  · simpa [hi] using h
set_option maxRecDepth 65536 in
theorem w_c0 : (Jvm.Cond.code x code maxLocals ret).before args0 about1 = true := code_word (m := ⟨1, 6⟩) (meth := k1m6) (c := k1c6) (by decide +kernel) rfl rfl rfl (by decide +kernel)
set_option maxRecDepth 65536 in
theorem w_c1 : (Jvm.Cond.code ({ cls := "com/example/credence/credence/LogonSendsNothingPinLaw", name := "str", desc := "(I)Ljava/lang/String;" } : Jvm.MethodName) method_2_code (4 : Nat) (Option.some (Jvm.ClassFile.FieldType.object "java/lang/String"))).before args0 about1 = true := code_word (m := ⟨1, 1⟩) (meth := k1m1) (c := k1c1) (by decide +kernel) rfl rfl rfl (by decide +kernel)
set_option maxRecDepth 65536 in
theorem w_c2 : (Jvm.Cond.code ({ cls := "java/lang/String", name := "<init>", desc := "([C)V" } : Jvm.MethodName) jdk_42_method_3_code (2 : Nat) (Option.none : Option Jvm.ClassFile.FieldType)).before args0 about1 = true := code_word (m := ⟨7, 1⟩) (meth := k7m1) (c := k7c1) (by decide +kernel) rfl rfl rfl (by decide +kernel)
set_option maxRecDepth 65536 in
theorem w_c3 : (Jvm.Cond.code ({ cls := "java/lang/String", name := "<init>", desc := "([CIILjava/lang/Void;)V" } : Jvm.MethodName) jdk_42_method_149_code (6 : Nat) (Option.none : Option Jvm.ClassFile.FieldType)).before args0 about1 = true := code_word (m := ⟨7, 3⟩) (meth := k7m3) (c := k7c3) (by decide +kernel) rfl rfl rfl (by decide +kernel)
set_option maxRecDepth 65536 in
theorem w_c4 : (Jvm.Cond.code ({ cls := "java/lang/Object", name := "<init>", desc := "()V" } : Jvm.MethodName) object_method_1_code (1 : Nat) (Option.none : Option Jvm.ClassFile.FieldType)).before args0 about1 = true := code_word (m := ⟨0, 0⟩) (meth := k0m0) (c := k0c0) (by decide +kernel) rfl rfl rfl (by decide +kernel)
set_option maxRecDepth 65536 in
theorem w_c5 : (Jvm.Cond.code ({ cls := "java/lang/StringUTF16", name := "compress", desc := "([CII)[B" } : Jvm.MethodName) jdk_52_method_16_code (6 : Nat) (Option.some (Jvm.ClassFile.FieldType.array Jvm.ClassFile.FieldType.byte))).before args0 about1 = true := code_word (m := ⟨8, 2⟩) (meth := k8m2) (c := k8c2) (by decide +kernel) rfl rfl rfl (by decide +kernel)
set_option maxRecDepth 65536 in
theorem w_c6 : (Jvm.Cond.code ({ cls := "java/lang/StringUTF16", name := "compress", desc := "([CI[BII)I" } : Jvm.MethodName) jdk_52_method_21_code (7 : Nat) (Option.some Jvm.ClassFile.FieldType.int)).before args0 about1 = true := code_word (m := ⟨8, 3⟩) (meth := k8m3) (c := k8c3) (by decide +kernel) rfl rfl rfl (by decide +kernel)
set_option maxRecDepth 65536 in
theorem w_c7 : (Jvm.Cond.code ({ cls := "java/lang/StringUTF16", name := "coderFromArrayLen", desc := "([BI)B" } : Jvm.MethodName) jdk_52_method_15_code (2 : Nat) (Option.some Jvm.ClassFile.FieldType.byte)).before args0 about1 = true := code_word (m := ⟨8, 1⟩) (meth := k8m1) (c := k8c1) (by decide +kernel) rfl rfl rfl (by decide +kernel)
set_option maxRecDepth 65536 in
theorem w_c8 : (Jvm.Cond.code ({ cls := "com/example/credence/credence/LogonSendsNothingPinLaw", name := "cred", desc := "(I)Lcom/example/credence/credence/Credentials;" } : Jvm.MethodName) method_5_code (1 : Nat) (Option.some (Jvm.ClassFile.FieldType.object "com/example/credence/credence/Credentials"))).before args0 about1 = true := code_word (m := ⟨1, 4⟩) (meth := k1m4) (c := k1c4) (by decide +kernel) rfl rfl rfl (by decide +kernel)
set_option maxRecDepth 65536 in
theorem w_c9 : (Jvm.Cond.code ({ cls := "com/example/credence/credence/LogonSendsNothingPinLaw", name := "passwordCode", desc := "(I)I" } : Jvm.MethodName) method_4_code (1 : Nat) (Option.some Jvm.ClassFile.FieldType.int)).before args0 about1 = true := code_word (m := ⟨1, 3⟩) (meth := k1m3) (c := k1c3) (by decide +kernel) rfl rfl rfl (by decide +kernel)
set_option maxRecDepth 65536 in
theorem w_c10 : (Jvm.Cond.code ({ cls := "com/example/credence/credence/Credentials", name := "<init>", desc := "(Ljava/lang/String;Ljava/lang/String;)V" } : Jvm.MethodName) prog_3_method_1_code (3 : Nat) (Option.none : Option Jvm.ClassFile.FieldType)).before args0 about1 = true := code_word (m := ⟨10, 0⟩) (meth := k10m0) (c := k10c0) (by decide +kernel) rfl rfl rfl (by decide +kernel)
set_option maxRecDepth 65536 in
theorem w_c11 : (Jvm.Cond.code ({ cls := "java/lang/Record", name := "<init>", desc := "()V" } : Jvm.MethodName) jdk_30_method_1_code (1 : Nat) (Option.none : Option Jvm.ClassFile.FieldType)).before args0 about1 = true := code_word (m := ⟨9, 0⟩) (meth := k9m0) (c := k9c0) (by decide +kernel) rfl rfl rfl (by decide +kernel)
set_option maxRecDepth 65536 in
theorem w_c12 : (Jvm.Cond.code ({ cls := "com/example/credence/credence/Logon", name := "<init>", desc := "(Ljava/lang/String;Ljava/lang/String;Lcom/example/credence/credence/Credentials;Lcom/example/credence/credence/Credentials;Ljava/lang/String;Ljava/lang/String;)V" } : Jvm.MethodName) prog_4_method_4_code (7 : Nat) (Option.none : Option Jvm.ClassFile.FieldType)).before args0 about1 = true := code_word (m := ⟨11, 0⟩) (meth := k11m0) (c := k11c0) (by decide +kernel) rfl rfl rfl (by decide +kernel)
set_option maxRecDepth 65536 in
theorem w_c13 : (Jvm.Cond.code ({ cls := "com/example/credence/credence/LogonSendsNothingPinLaw", name := "sent", desc := "(I)Z" } : Jvm.MethodName) method_3_code (1 : Nat) (Option.some Jvm.ClassFile.FieldType.boolean)).before args0 about1 = true := code_word (m := ⟨1, 2⟩) (meth := k1m2) (c := k1c2) (by decide +kernel) rfl rfl rfl (by decide +kernel)
set_option maxRecDepth 65536 in
theorem w_c14 : (Jvm.Cond.code ({ cls := "com/example/credence/credence/Logon", name := "sendsNothing", desc := "()Z" } : Jvm.MethodName) prog_4_method_6_code (1 : Nat) (Option.some Jvm.ClassFile.FieldType.boolean)).before args0 about1 = true := code_word (m := ⟨11, 1⟩) (meth := k11m1) (c := k11c1) (by decide +kernel) rfl rfl rfl (by decide +kernel)
set_option maxRecDepth 65536 in
theorem w_c15 : (Jvm.Cond.code ({ cls := "java/lang/String", name := "isEmpty", desc := "()Z" } : Jvm.MethodName) jdk_42_method_55_code (1 : Nat) (Option.some Jvm.ClassFile.FieldType.boolean)).before args0 about1 = true := code_word (m := ⟨7, 2⟩) (meth := k7m2) (c := k7c2) (by decide +kernel) rfl rfl rfl (by decide +kernel)
set_option maxRecDepth 65536 in
theorem w_c16 : (Jvm.Cond.code ({ cls := "com/example/credence/credence/LogonSendsNothingPinLaw", name := "credSent", desc := "(I)Z" } : Jvm.MethodName) method_6_code (1 : Nat) (Option.some Jvm.ClassFile.FieldType.boolean)).before args0 about1 = true := code_word (m := ⟨1, 5⟩) (meth := k1m5) (c := k1c5) (by decide +kernel) rfl rfl rfl (by decide +kernel)
set_option maxRecDepth 65536 in
theorem w_c17 : (Jvm.Cond.code ({ cls := "com/example/credence/credence/Credentials", name := "blank", desc := "()Z" } : Jvm.MethodName) prog_3_method_3_code (1 : Nat) (Option.some Jvm.ClassFile.FieldType.boolean)).before args0 about1 = true := code_word (m := ⟨10, 1⟩) (meth := k10m1) (c := k10c1) (by decide +kernel) rfl rfl rfl (by decide +kernel)
def codes1 : List Jvm.Cond := [Jvm.Cond.code x code maxLocals ret, Jvm.Cond.code ({ cls := "com/example/credence/credence/LogonSendsNothingPinLaw", name := "str", desc := "(I)Ljava/lang/String;" } : Jvm.MethodName) method_2_code (4 : Nat) (Option.some (Jvm.ClassFile.FieldType.object "java/lang/String")), Jvm.Cond.code ({ cls := "java/lang/String", name := "<init>", desc := "([C)V" } : Jvm.MethodName) jdk_42_method_3_code (2 : Nat) (Option.none : Option Jvm.ClassFile.FieldType), Jvm.Cond.code ({ cls := "java/lang/String", name := "<init>", desc := "([CIILjava/lang/Void;)V" } : Jvm.MethodName) jdk_42_method_149_code (6 : Nat) (Option.none : Option Jvm.ClassFile.FieldType), Jvm.Cond.code ({ cls := "java/lang/Object", name := "<init>", desc := "()V" } : Jvm.MethodName) object_method_1_code (1 : Nat) (Option.none : Option Jvm.ClassFile.FieldType), Jvm.Cond.code ({ cls := "java/lang/StringUTF16", name := "compress", desc := "([CII)[B" } : Jvm.MethodName) jdk_52_method_16_code (6 : Nat) (Option.some (Jvm.ClassFile.FieldType.array Jvm.ClassFile.FieldType.byte)), Jvm.Cond.code ({ cls := "java/lang/StringUTF16", name := "compress", desc := "([CI[BII)I" } : Jvm.MethodName) jdk_52_method_21_code (7 : Nat) (Option.some Jvm.ClassFile.FieldType.int), Jvm.Cond.code ({ cls := "java/lang/StringUTF16", name := "coderFromArrayLen", desc := "([BI)B" } : Jvm.MethodName) jdk_52_method_15_code (2 : Nat) (Option.some Jvm.ClassFile.FieldType.byte), Jvm.Cond.code ({ cls := "com/example/credence/credence/LogonSendsNothingPinLaw", name := "cred", desc := "(I)Lcom/example/credence/credence/Credentials;" } : Jvm.MethodName) method_5_code (1 : Nat) (Option.some (Jvm.ClassFile.FieldType.object "com/example/credence/credence/Credentials")), Jvm.Cond.code ({ cls := "com/example/credence/credence/LogonSendsNothingPinLaw", name := "passwordCode", desc := "(I)I" } : Jvm.MethodName) method_4_code (1 : Nat) (Option.some Jvm.ClassFile.FieldType.int), Jvm.Cond.code ({ cls := "com/example/credence/credence/Credentials", name := "<init>", desc := "(Ljava/lang/String;Ljava/lang/String;)V" } : Jvm.MethodName) prog_3_method_1_code (3 : Nat) (Option.none : Option Jvm.ClassFile.FieldType), Jvm.Cond.code ({ cls := "java/lang/Record", name := "<init>", desc := "()V" } : Jvm.MethodName) jdk_30_method_1_code (1 : Nat) (Option.none : Option Jvm.ClassFile.FieldType), Jvm.Cond.code ({ cls := "com/example/credence/credence/Logon", name := "<init>", desc := "(Ljava/lang/String;Ljava/lang/String;Lcom/example/credence/credence/Credentials;Lcom/example/credence/credence/Credentials;Ljava/lang/String;Ljava/lang/String;)V" } : Jvm.MethodName) prog_4_method_4_code (7 : Nat) (Option.none : Option Jvm.ClassFile.FieldType), Jvm.Cond.code ({ cls := "com/example/credence/credence/LogonSendsNothingPinLaw", name := "sent", desc := "(I)Z" } : Jvm.MethodName) method_3_code (1 : Nat) (Option.some Jvm.ClassFile.FieldType.boolean), Jvm.Cond.code ({ cls := "com/example/credence/credence/Logon", name := "sendsNothing", desc := "()Z" } : Jvm.MethodName) prog_4_method_6_code (1 : Nat) (Option.some Jvm.ClassFile.FieldType.boolean), Jvm.Cond.code ({ cls := "java/lang/String", name := "isEmpty", desc := "()Z" } : Jvm.MethodName) jdk_42_method_55_code (1 : Nat) (Option.some Jvm.ClassFile.FieldType.boolean), Jvm.Cond.code ({ cls := "com/example/credence/credence/LogonSendsNothingPinLaw", name := "credSent", desc := "(I)Z" } : Jvm.MethodName) method_6_code (1 : Nat) (Option.some Jvm.ClassFile.FieldType.boolean), Jvm.Cond.code ({ cls := "com/example/credence/credence/Credentials", name := "blank", desc := "()Z" } : Jvm.MethodName) prog_3_method_3_code (1 : Nat) (Option.some Jvm.ClassFile.FieldType.boolean)]
set_option maxRecDepth 65536 in
theorem codes_eq : words1.filter isCode = codes1 := rfl
theorem w_codes : ∀ c ∈ words1.filter isCode, c.before args0 about1 = true := by
  rw [codes_eq]
  intro c hc
  simp only [codes1, List.mem_cons, List.not_mem_nil, or_false] at hc
  rcases hc with rfl | rfl | rfl | rfl | rfl | rfl | rfl | rfl | rfl | rfl | rfl | rfl | rfl | rfl | rfl | rfl | rfl | rfl
  · exact w_c0
  · exact w_c1
  · exact w_c2
  · exact w_c3
  · exact w_c4
  · exact w_c5
  · exact w_c6
  · exact w_c7
  · exact w_c8
  · exact w_c9
  · exact w_c10
  · exact w_c11
  · exact w_c12
  · exact w_c13
  · exact w_c14
  · exact w_c15
  · exact w_c16
  · exact w_c17
set_option maxRecDepth 65536 in
theorem w_t1 : (words1.take 24).all (fun c => isCode c || c.before args0 about1) = true := by decide +kernel
set_option maxRecDepth 65536 in
theorem w_t2 : ((words1.drop 24).take 24).all (fun c => isCode c || c.before args0 about1) = true := by decide +kernel
set_option maxRecDepth 65536 in
theorem w_t3 : (((words1.drop 24).drop 24).take 24).all (fun c => isCode c || c.before args0 about1) = true := by decide +kernel
set_option maxRecDepth 65536 in
theorem w_t4 : ((((words1.drop 24).drop 24).drop 24).take 24).all (fun c => isCode c || c.before args0 about1) = true := by decide +kernel
set_option maxRecDepth 65536 in
theorem w_t5 : ((((words1.drop 24).drop 24).drop 24).drop 24).all (fun c => isCode c || c.before args0 about1) = true := by decide +kernel
theorem w_tables : (allAtoms (Jvm.Cond.code x code maxLocals ret :: tables_1)).before args0 about1 = true := by
  rw [allAtoms_all]
  show words1.all (fun c => c.before args0 about1) = true
  refine all_split ?_ w_codes
  rw [← List.take_append_drop 24 words1, List.all_append, w_t1, ← List.take_append_drop 24 (words1.drop 24), List.all_append, w_t2, ← List.take_append_drop 24 ((words1.drop 24).drop 24), List.all_append, w_t3, ← List.take_append_drop 24 (((words1.drop 24).drop 24).drop 24), List.all_append, w_t4, w_t5]
  rfl
set_option maxRecDepth 65536 in
theorem w_rest : rest_1_c.before args0 about1 = true := by decide +kernel
set_option maxRecDepth 65536 in
theorem w_case : (Jvm.Cond.and given_1 narrow_1).before args0 about1 = true := by decide +kernel
set_option maxRecDepth 65536 in
theorem w_consts : constsHeld consts_1 about1 := Jvm.Lit.constsHeldB_iff.mp (by decide +kernel)
theorem w_applies : (headSpec (Jvm.Cond.code x code maxLocals ret :: tables_1) room_1).applies x e0.platform about1 = true :=
  (Spec.applies_iff w_frames).mpr ⟨w_running, w_runnable, w_alone, w_named, w_hears, w_ripe, w_room, w_tables⟩
theorem atStart : AtStart classFile x code maxLocals ret World_1 tables_1 room_1 Calls_1 rest_1 Pre_1 launch0 p0 e0 about1 theMethod args0 below0 :=
  ⟨lists_1, trivial, launch0.admits_env _ _ _, launch0.least_env, fairChoices_fair.cas, fairChoices_fair.clock, w_frames, w_args, w_heap, w_applies, ⟨w_consts, trivial⟩, w_rest, w_case⟩
end start1
theorem witness_1 : WitnessClaimed_1 := ⟨start1.p0, start1.e0, start1.about1, start1.theMethod, start1.args0, start1.below0, start1.atStart⟩
end Jvm.Pilot.@@N@@
