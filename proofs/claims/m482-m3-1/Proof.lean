import JvmDerived
import JvmDerived.Pilot.@@N@@Statement
import JvmDerived.Pilot.@@N@@Code
set_option linter.unusedVariables false
set_option linter.unusedSimpArgs false
/- laws to paste: Road.backV, Road.eqW, Road.codOf (cut by pick.py; bodies as the Statement names them) -/
namespace Jvm.Pilot.@@N@@
namespace StrChars
open Jvm Sem ClassFile Op Lib Jvm.Stand Jvm.Free.XT Jvm.Free.ALB Jvm.Free.JM Jvm.Free
open Jvm.Lib.Cold (StaticIs)
/-- a char array whose places are chars -/
def Ch (a : Addr) (A : Cell) (U : State) : Prop := Arr .char a A U ∧ Typed .char A
theorem Ch.mv {a : Addr} {A : Cell} {U U' : State} (h : Ch a A U) (hal : U.vm.Alike U'.vm) (hh : U'.heap = U.heap) : Ch a A U' := ⟨h.1.mv hal hh, h.2⟩
theorem Ch.keep {a : Addr} {A : Cell} {U U' : State} (h : Ch a A U) (hal : U.vm.Alike U'.vm) (hk : U'.heap[a]? = some A) : Ch a A U' := ⟨h.1.keep hal hk, h.2⟩
/-- what place i of a char[]'s cell holds -/
def cv (A : Cell) (i : Nat) : Int32 := match A.slots[i]? with | some (.int x) => x | _ => 0
theorem Ch.get {a : Addr} {A : Cell} {U : State} (h : Ch a A U) {i : Nat} (hi : i < A.slots.size) : A.slots[i]? = some (.int (cv A i)) := by
  have e := Array.getElem?_eq_getElem hi
  have f := h.2 i _ e
  unfold cv; rw [e]
  generalize A.slots[i] = v at f
  cases v <;> simp [fits] at f ⊢
/-- the byte that i2b leaves of a char -/
def lo8 (x : Int32) : Int32 := x.toInt8.toInt32
theorem fits_lo8 (y : Int32) : fits .byte (.int (lo8 y)) = true := by
  have h1 := y.toInt8.le_toInt
  have h2 := y.toInt8.toInt_lt
  simp only [lo8, fits, Bool.and_eq_true, decide_eq_true_eq, Int32.le_iff_toInt_le, Int8.toInt_toInt32, show (-128 : Int32).toInt = -128 from by decide, show (127 : Int32).toInt = 127 from by decide]
  omega
/-- A' is A but that each place j of lo .. hi - 1 holds f j -/
def Laid (A A' : Cell) (lo hi : Nat) (f : Nat → Value) : Prop := A'.cls = A.cls ∧ A'.vm = A.vm ∧ A'.slots.size = A.slots.size ∧ ∀ i, A'.slots[i]? = if lo ≤ i ∧ i < hi then some (f i) else A.slots[i]?
theorem Laid.zero (A : Cell) (lo : Nat) (f : Nat → Value) : Laid A A lo (lo + 0) f := ⟨rfl, rfl, rfl, fun i => by rw [if_neg (by omega)]⟩
theorem Laid.step {A Ak : Cell} {lo k : Nat} {f : Nat → Value} {v : Value} (h : Laid A Ak lo k f) (hlo : lo ≤ k) (hk : k < Ak.slots.size) (hv : v = f k) : Laid A (Ak.setSlot k v) lo (k + 1) f := by
  refine ⟨h.1, h.2.1, by simpa [Cell.setSlot] using h.2.2.1, fun i => ?_⟩
  by_cases e : k = i
  · subst e; rw [Cell.slots_setSlot_self v hk, if_pos (by omega), hv]
  · rw [Cell.slots_setSlot_ne v e, h.2.2.2 i]
    by_cases q : lo ≤ i ∧ i < k
    · rw [if_pos q, if_pos (by omega)]
    · rw [if_neg q, if_neg (by omega)]
def U16 : String := "java/lang/StringUTF16"
namespace Cmp5
def yN : MethodName := ⟨"java/lang/StringUTF16", "compress", "([CI[BII)I"⟩
abbrev yB : ByteArray := jdk_52_method_21_code
theorem d0 : decode yB 0 = .ok (.iconst 0, 1) := by decide +kernel
theorem d1 : decode yB 1 = .ok (.istore 5, 2) := by decide +kernel
theorem d3 : decode yB 3 = .ok (.iload 5, 2) := by decide +kernel
theorem d5 : decode yB 5 = .ok (.iload 4, 2) := by decide +kernel
theorem d7 : decode yB 7 = .ok (.if_icmp (.ge) 37, 3) := by decide +kernel
theorem d10 : decode yB 10 = .ok (.aload_n 0, 1) := by decide +kernel
theorem d11 : decode yB 11 = .ok (.iload_n 1, 1) := by decide +kernel
theorem d12 : decode yB 12 = .ok (.caload, 1) := by decide +kernel
theorem d13 : decode yB 13 = .ok (.istore 6, 2) := by decide +kernel
theorem d15 : decode yB 15 = .ok (.iload 6, 2) := by decide +kernel
theorem d17 : decode yB 17 = .ok (.sipush 255, 3) := by decide +kernel
theorem d20 : decode yB 20 = .ok (.if_icmp (.le) 6, 3) := by decide +kernel
theorem d26 : decode yB 26 = .ok (.aload_n 2, 1) := by decide +kernel
theorem d27 : decode yB 27 = .ok (.iload_n 3, 1) := by decide +kernel
theorem d28 : decode yB 28 = .ok (.iload 6, 2) := by decide +kernel
theorem d30 : decode yB 30 = .ok (.i2b, 1) := by decide +kernel
theorem d31 : decode yB 31 = .ok (.bastore, 1) := by decide +kernel
theorem d32 : decode yB 32 = .ok (.iinc 1 1, 3) := by decide +kernel
theorem d35 : decode yB 35 = .ok (.iinc 3 1, 3) := by decide +kernel
theorem d38 : decode yB 38 = .ok (.iinc 5 1, 3) := by decide +kernel
theorem d41 : decode yB 41 = .ok (.goto (-38), 3) := by decide +kernel
theorem d44 : decode yB 44 = .ok (.iload 4, 2) := by decide +kernel
theorem d46 : decode yB 46 = .ok (.ireturn, 1) := by decide +kernel
def site : List Cond := []
def tab : Cond := tabOf yN yB 7 (some .int) site
def P (b : Addr) (A : Cell) (d : Addr) (B : Cell) (o q len : Nat) (args : Array Value) (s : State) : Prop := args = #[.ref b, .int (Int32.ofNat o), .ref d, .int (Int32.ofNat q), .int (Int32.ofNat len)] ∧ Ch b A s ∧ Arr .byte d B s ∧ b ≠ d ∧ o + len ≤ A.slots.size ∧ q + len ≤ B.slots.size ∧ ∀ i, i < len → ¬ 255 < cv A (o + i)
def E (b : Addr) (A : Cell) (d : Addr) (B : Cell) (o q len : Nat) (r : Option Value) (s u : State) : Prop := r = some (.int (Int32.ofNat len)) ∧ ∃ B', Put d B' s u ∧ Laid B B' q (q + len) (fun j => Value.int (lo8 (cv A (o + (j - q)))))
/-- no char of the range above 255: len; the places written hold each char's low byte -/
theorem law (l : Launch) (b : Addr) (A : Cell) (d : Addr) (B : Cell) (o q len : Nat) : Law l yN 5 5 0 0 yB 7 (some .int) site (P b A d B o q len) (E b A d B o q len) (copyLocs d q len) 0 0 := by
  refine Law.of_walk (plainFor_of_name (by decide +kernel)) (by decide +kernel) (by decide +kernel) (by decide) (fun _ _ h => by rw [h.1]; rfl) (fun _ U U' hal hh h => ⟨h.1, h.2.1.mv hal hh, h.2.2.1.mv hal hh, h.2.2.2⟩) (fun r U U' V V' h1 hal h2 h => ⟨h.1, h.2.elim fun B' q => ⟨B', q.1.mv h1 h2, q.2⟩⟩) ?_
  intro p e s m args below meth c s₁ X0 hexec hbytes hml hret hlk hnm hown hh0 W hP
  obtain ⟨rfl, hA, hB, hne, l1, l2, hp⟩ := hP
  have c1 : Steps p.tables e below (s₁.setTop (entryFrame m #[.ref b, .int (Int32.ofNat o), .ref d, .int (Int32.ofNat q), .int (Int32.ofNat len)] 7)) (s₁.setTop (mkF m 0 #[.val (.ref b), .val (.int (Int32.ofNat o)), .val (.ref d), .val (.int (Int32.ofNat q)), .val (.int (Int32.ofNat len)), .unset, .unset] [])) := entry rfl
  have hA0 := hA.1.mv X0.warmed.alike hh0
  have hB0 := hB.mv X0.warmed.alike hh0
  have a31 := hA.1.2.2.2
  have c2 : Steps p.tables e below (s₁.setTop (entryFrame m #[.ref b, .int (Int32.ofNat o), .ref d, .int (Int32.ofNat q), .int (Int32.ofNat len)] 7)) (s₁.setTop (mkF m 3 #[.val (.ref b), .val (.int (Int32.ofNat o)), .val (.ref d), .val (.int (Int32.ofNat q)), .val (.int (Int32.ofNat len)), .val (.int 0), .unset] [])) := c1.trans (by
    refine iconstV X0.here hexec rfl 0 (hb hbytes d0) (by decide) ?_
    refine XS.istore X0.here hexec rfl (hb hbytes d1) rfl rfl ?_
    exact Steps.refl _)
  have loop : ∀ (r i : Nat), i + r = len → ∀ (z : Slot), (z = .unset ∨ ∃ w, z = .val w ∧ w.category = 1) → ∀ (Tl : State) (Bk : Cell), Stand p l e { frames := 0, locals := 0, cells := 0, slots := 0 } s m #[.ref b, .int (Int32.ofNat o), .ref d, .int (Int32.ofNat q), .int (Int32.ofNat len)] below meth c Tl ([] ++ copyLocs d q i) 0 0 → Put d Bk s₁ Tl → Laid B Bk q (q + i) (fun j => Value.int (lo8 (cv A (o + (j - q))))) →
      Steps p.tables e below (s₁.setTop (entryFrame m #[.ref b, .int (Int32.ofNat o), .ref d, .int (Int32.ofNat q), .int (Int32.ofNat len)] 7)) (Tl.setTop (mkF m 3 #[.val (.ref b), .val (.int (Int32.ofNat (o + i))), .val (.ref d), .val (.int (Int32.ofNat (q + i))), .val (.int (Int32.ofNat len)), .val (.int (Int32.ofNat i)), z] [])) → ∃ (T' : State) (B' : Cell) (z' : Slot), Stand p l e { frames := 0, locals := 0, cells := 0, slots := 0 } s m #[.ref b, .int (Int32.ofNat o), .ref d, .int (Int32.ofNat q), .int (Int32.ofNat len)] below meth c T' ([] ++ copyLocs d q len) 0 0 ∧ Put d B' s₁ T' ∧ Laid B B' q (q + len) (fun j => Value.int (lo8 (cv A (o + (j - q))))) ∧
      Steps p.tables e below (s₁.setTop (entryFrame m #[.ref b, .int (Int32.ofNat o), .ref d, .int (Int32.ofNat q), .int (Int32.ofNat len)] 7)) (T'.setTop (mkF m 3 #[.val (.ref b), .val (.int (Int32.ofNat (o + len))), .val (.ref d), .val (.int (Int32.ofNat (q + len))), .val (.int (Int32.ofNat len)), .val (.int (Int32.ofNat len)), z'] [])) := by
    intro r
    induction r with
    | zero =>
      intro i hi z hz Tl Bk Xl pl fl cl
      have hil : i = len := by omega
      rw [hil] at Xl fl cl
      exact ⟨Tl, Bk, z, Xl, pl, fl, cl⟩
    | succ r ih =>
      intro i hi z hz Tl Bk Xl pl fl cl
      have all := X0.warmed.alike.symm.trans Xl.warmed.alike
      have hAl := hA0.keep all (pl.other hne hA0.1)
      have hBk := hB0.like all pl.1 fl.1 fl.2.1 fl.2.2.1
      have hlt : q + i < Bk.slots.size := by rw [fl.2.2.1]; omega
      have c3 : Steps p.tables e below (s₁.setTop (entryFrame m #[.ref b, .int (Int32.ofNat o), .ref d, .int (Int32.ofNat q), .int (Int32.ofNat len)] 7)) (Tl.setTop (mkF m 12 #[.val (.ref b), .val (.int (Int32.ofNat (o + i))), .val (.ref d), .val (.int (Int32.ofNat (q + i))), .val (.int (Int32.ofNat len)), .val (.int (Int32.ofNat i)), z] [.int (Int32.ofNat (o + i)), .ref b])) := cl.trans (by
        refine XS.iload Xl.here hexec rfl (hb hbytes d3) rfl ?_
        refine XS.iload Xl.here hexec rfl (hb hbytes d5) rfl ?_
        refine XS.icmpNo Xl.here hexec rfl (hb hbytes d7) rfl (ii_ge_f (lt32 (by omega) (by omega))) ?_
        refine XS.aloadN Xl.here hexec rfl (hb hbytes d10) rfl rfl ?_
        refine XS.iloadN Xl.here hexec rfl (hb hbytes d11) rfl ?_
        exact Steps.refl _)
      have c4 : Steps p.tables e below (s₁.setTop (entryFrame m #[.ref b, .int (Int32.ofNat o), .ref d, .int (Int32.ofNat q), .int (Int32.ofNat len)] 7)) (Tl.setTop (mkF m 13 #[.val (.ref b), .val (.int (Int32.ofNat (o + i))), .val (.ref d), .val (.int (Int32.ofNat (q + i))), .val (.int (Int32.ofNat len)), .val (.int (Int32.ofNat i)), z] [.int (cv A (o + i))])) := c3.trans (by
        refine Xl.aget hexec hAl rfl (hA.get (i := o + i) (by omega)) rfl rfl (hb hbytes d12) ?_
        exact Steps.refl _)
      have c5 : Steps p.tables e below (s₁.setTop (entryFrame m #[.ref b, .int (Int32.ofNat o), .ref d, .int (Int32.ofNat q), .int (Int32.ofNat len)] 7)) (Tl.setTop (mkF m 15 #[.val (.ref b), .val (.int (Int32.ofNat (o + i))), .val (.ref d), .val (.int (Int32.ofNat (q + i))), .val (.int (Int32.ofNat len)), .val (.int (Int32.ofNat i)), .val (.int (cv A (o + i)))] [])) := c4.trans (by
        refine XS.istoreS Xl.here hexec rfl (hb hbytes d13) rfl rfl hz ?_
        exact Steps.refl _)
      have c6 : Steps p.tables e below (s₁.setTop (entryFrame m #[.ref b, .int (Int32.ofNat o), .ref d, .int (Int32.ofNat q), .int (Int32.ofNat len)] 7)) (Tl.setTop (mkF m 31 #[.val (.ref b), .val (.int (Int32.ofNat (o + i))), .val (.ref d), .val (.int (Int32.ofNat (q + i))), .val (.int (Int32.ofNat len)), .val (.int (Int32.ofNat i)), .val (.int (cv A (o + i)))] [.int (lo8 (cv A (o + i))), .int (Int32.ofNat (q + i)), .ref d])) := c5.trans (by
        refine XS.iload Xl.here hexec rfl (hb hbytes d15) rfl ?_
        refine sipushV Xl.here hexec rfl 255 (hb hbytes d17) (by decide) ?_
        refine XS.icmpYes Xl.here hexec rfl (pc0 := 20) rfl (hb hbytes d20) rfl (ii_le_t (hp i (by omega))) (by decide) rfl ?_
        refine XS.aloadN Xl.here hexec rfl (hb hbytes d26) rfl rfl ?_
        refine XS.iloadN Xl.here hexec rfl (hb hbytes d27) rfl ?_
        refine XS.iload Xl.here hexec rfl (hb hbytes d28) rfl ?_
        refine i2b Xl.here hexec rfl (hb hbytes d30) rfl ?_
        exact Steps.refl _)
      obtain ⟨T7, X7, p7, st7⟩ := Xl.aput hexec hBk rfl hlt rfl (fits_lo8 (cv A (o + i))) (g := (mkF m 31 #[.val (.ref b), .val (.int (Int32.ofNat (o + i))), .val (.ref d), .val (.int (Int32.ofNat (q + i))), .val (.int (Int32.ofNat len)), .val (.int (Int32.ofNat i)), .val (.int (cv A (o + i)))] [.int (lo8 (cv A (o + i))), .int (Int32.ofNat (q + i)), .ref d])) rfl (rest := []) rfl (hb hbytes d31)
      have c8 : Steps p.tables e below (s₁.setTop (entryFrame m #[.ref b, .int (Int32.ofNat o), .ref d, .int (Int32.ofNat q), .int (Int32.ofNat len)] 7)) (T7.setTop (mkF m 32 #[.val (.ref b), .val (.int (Int32.ofNat (o + i))), .val (.ref d), .val (.int (Int32.ofNat (q + i))), .val (.int (Int32.ofNat len)), .val (.int (Int32.ofNat i)), .val (.int (cv A (o + i)))] [])) := c6.trans (st7 _ (Steps.refl _))
      have c9 : Steps p.tables e below (s₁.setTop (entryFrame m #[.ref b, .int (Int32.ofNat o), .ref d, .int (Int32.ofNat q), .int (Int32.ofNat len)] 7)) (T7.setTop (mkF m 3 #[.val (.ref b), .val (.int (Int32.ofNat (o + i) + 1)), .val (.ref d), .val (.int (Int32.ofNat (q + i) + 1)), .val (.int (Int32.ofNat len)), .val (.int (Int32.ofNat i + 1)), .val (.int (cv A (o + i)))] [])) := c8.trans (by
        refine iincV X7.here hexec rfl 1 (hb hbytes d32) (by decide) rfl rfl ?_
        refine iincV X7.here hexec rfl 1 (hb hbytes d35) (by decide) rfl rfl ?_
        refine iincV X7.here hexec rfl 1 (hb hbytes d38) (by decide) rfl rfl ?_
        refine XS.goto X7.here hexec rfl (pc0 := 41) rfl (hb hbytes d41) (by decide) rfl ?_
        exact Steps.refl _)
      have c10 : Steps p.tables e below (s₁.setTop (entryFrame m #[.ref b, .int (Int32.ofNat o), .ref d, .int (Int32.ofNat q), .int (Int32.ofNat len)] 7)) (T7.setTop (mkF m 3 #[.val (.ref b), .val (.int (Int32.ofNat (o + (i + 1)))), .val (.ref d), .val (.int (Int32.ofNat (q + (i + 1)))), .val (.int (Int32.ofNat len)), .val (.int (Int32.ofNat (i + 1))), .val (.int (cv A (o + i)))] [])) := by
        have := c9
        rw [succ32, succ32, succ32] at this
        exact this
      exact ih (i + 1) (by omega) _ (Or.inr ⟨_, rfl, rfl⟩) T7 _ (by rw [copyLocs_step, ← List.append_assoc]; exact X7) (pl.trans p7) (fl.step (by omega) hlt (by simp)) c10
  obtain ⟨T9, B9, z9, X9, p9, f9, g9⟩ := loop len 0 (by omega) .unset (Or.inl rfl) s₁ B (by simpa [copyLocs] using X0) ⟨hB0.1, fun _ _ => rfl, rfl⟩ (Laid.zero _ _ _) c2
  have c11 : Steps p.tables e below (s₁.setTop (entryFrame m #[.ref b, .int (Int32.ofNat o), .ref d, .int (Int32.ofNat q), .int (Int32.ofNat len)] 7)) (T9.setTop (mkF m 46 #[.val (.ref b), .val (.int (Int32.ofNat (o + len))), .val (.ref d), .val (.int (Int32.ofNat (q + len))), .val (.int (Int32.ofNat len)), .val (.int (Int32.ofNat len)), z9] [.int (Int32.ofNat len)])) := g9.trans (by
    refine XS.iload X9.here hexec rfl (hb hbytes d3) rfl ?_
    refine XS.iload X9.here hexec rfl (hb hbytes d5) rfl ?_
    refine XS.icmpYes X9.here hexec rfl (pc0 := 7) rfl (hb hbytes d7) rfl (ii_ge_t (nlt32 (by omega) (Nat.le_refl _))) (by decide) rfl ?_
    refine XS.iload X9.here hexec rfl (hb hbytes d44) rfl ?_
    exact Steps.refl _)
  exact ⟨T9, some (.int (Int32.ofNat len)), _, _, _, X9, by simp, rfl, rfl, (fun h => by cases h), ⟨rfl, B9, p9.from hh0, f9⟩, fun fs hl => c11.trans (X9.ireturnOut hexec hret rfl (Or.inl rfl) (hb hbytes d46) hl)⟩
end Cmp5
namespace Cmp3
def yN : MethodName := ⟨"java/lang/StringUTF16", "compress", "([CII)[B"⟩
abbrev yB : ByteArray := jdk_52_method_16_code
theorem d0 : decode yB 0 = .ok (.iload_n 2, 1) := by decide +kernel
theorem d1 : decode yB 1 = .ok (.newarray .byte, 2) := by decide +kernel
theorem d3 : decode yB 3 = .ok (.astore_n 3, 1) := by decide +kernel
theorem d4 : decode yB 4 = .ok (.aload_n 0, 1) := by decide +kernel
theorem d5 : decode yB 5 = .ok (.iload_n 1, 1) := by decide +kernel
theorem d6 : decode yB 6 = .ok (.aload_n 3, 1) := by decide +kernel
theorem d7 : decode yB 7 = .ok (.iconst 0, 1) := by decide +kernel
theorem d8 : decode yB 8 = .ok (.iload_n 2, 1) := by decide +kernel
theorem d9 : decode yB 9 = .ok (.invokestatic 115, 3) := by decide +kernel
theorem d12 : decode yB 12 = .ok (.istore 4, 2) := by decide +kernel
theorem d14 : decode yB 14 = .ok (.iload 4, 2) := by decide +kernel
theorem d16 : decode yB 16 = .ok (.iload_n 2, 1) := by decide +kernel
theorem d17 : decode yB 17 = .ok (.if_icmp (.eq) 40, 3) := by decide +kernel
theorem d57 : decode yB 57 = .ok (.aload_n 3, 1) := by decide +kernel
theorem d58 : decode yB 58 = .ok (.areturn, 1) := by decide +kernel
def site : List Cond := [.arrayClass .byte, Cmp5.tab] ++ staticW U16 115 Cmp5.yN
def tab : Cond := tabOf yN yB 6 (some (.array .byte)) site
def P (b : Addr) (A : Cell) (o len : Nat) (args : Array Value) (s : State) : Prop := args = #[.ref b, .int (Int32.ofNat o), .int (Int32.ofNat len)] ∧ Ch b A s ∧ o + len ≤ A.slots.size ∧ len ≤ 536870912 ∧ ∀ i, i < len → ¬ 255 < cv A (o + i)
def E (b : Addr) (A : Cell) (o len : Nat) (r : Option Value) (s u : State) : Prop := NewArr .byte "[B" len (fun j => .int (lo8 (cv A (o + j)))) r s u ∧ u.heap.size = s.heap.size + 1
/-- no char of the range above 255: a new byte[] of their low bytes -/
theorem law (l : Launch) (b : Addr) (A : Cell) (o len : Nat) : Law l yN 3 3 1 18 yB 6 (some (.array .byte)) site (P b A o len) (E b A o len) [] 1 len := by
  refine Law.of_walk (plainFor_of_name (by decide +kernel)) (by decide +kernel) (by decide +kernel) (by decide) (fun _ _ h => by rw [h.1]; rfl) (fun _ U U' hal hh h => ⟨h.1, h.2.1.mv hal hh, h.2.2⟩) (fun r U U' V V' h1 hal h2 h => ⟨NewArr.mv r U U' V V' h1 hal h2 h.1, by rw [h1, h2]; exact h.2⟩) ?_
  intro p e s m args below meth c s₁ X0 hexec hbytes hml hret hlk hnm hown hh0 W hP
  obtain ⟨rfl, hA, l1, l2, hp⟩ := hP
  have a31 := hA.1.2.2.2
  have c1 : Steps p.tables e below (s₁.setTop (entryFrame m #[.ref b, .int (Int32.ofNat o), .int (Int32.ofNat len)] 6)) (s₁.setTop (mkF m 0 #[.val (.ref b), .val (.int (Int32.ofNat o)), .val (.int (Int32.ofNat len)), .unset, .unset, .unset] [])) := entry rfl
  have c2 : Steps p.tables e below (s₁.setTop (entryFrame m #[.ref b, .int (Int32.ofNat o), .int (Int32.ofNat len)] 6)) (s₁.setTop (mkF m 1 #[.val (.ref b), .val (.int (Int32.ofNat o)), .val (.int (Int32.ofNat len)), .unset, .unset, .unset] [.int (Int32.ofNat len)])) := c1.trans (by
    refine XS.iloadN X0.here hexec rfl (hb hbytes d0) rfl ?_
    exact Steps.refl _)
  obtain ⟨T3, B3, X3, ba3, bs3, bv3, bh3, bf3, st3⟩ := X0.anew hexec (atype := .byte) (wk W (.arrayClass .byte)) rfl (by show len * 1 ≤ _; omega) (by omega) (g := (mkF m 1 #[.val (.ref b), .val (.int (Int32.ofNat o)), .val (.int (Int32.ofNat len)), .unset, .unset, .unset] [.int (Int32.ofNat len)])) rfl (hb hbytes d1) (rest := []) rfl (Nat.le_refl _) (by show 0 + len ≤ len; omega)
  rw [hh0] at ba3 st3
  have kp3 : XT.Kept s T3 := (XT.Kept.of_eq hh0).push bh3
  have hA3 := hA.keep X3.warmed.alike (kp3 _ _ hA.1.1)
  have hne : b ≠ s.heap.size := hA.1.ne
  have c4 : Steps p.tables e below (s₁.setTop (entryFrame m #[.ref b, .int (Int32.ofNat o), .int (Int32.ofNat len)] 6)) (T3.setTop (mkF m 3 #[.val (.ref b), .val (.int (Int32.ofNat o)), .val (.int (Int32.ofNat len)), .unset, .unset, .unset] [.ref s.heap.size])) := c2.trans (st3 _ (Steps.refl _))
  have c5 : Steps p.tables e below (s₁.setTop (entryFrame m #[.ref b, .int (Int32.ofNat o), .int (Int32.ofNat len)] 6)) (T3.setTop (mkF m 9 #[.val (.ref b), .val (.int (Int32.ofNat o)), .val (.int (Int32.ofNat len)), .val (.ref s.heap.size), .unset, .unset] [.int (Int32.ofNat len), .int 0, .ref s.heap.size, .int (Int32.ofNat o), .ref b])) := c4.trans (by
    refine XS.astoreN X3.here hexec rfl (hb hbytes d3) rfl rfl rfl ?_
    refine XS.aloadN X3.here hexec rfl (hb hbytes d4) rfl rfl ?_
    refine XS.iloadN X3.here hexec rfl (hb hbytes d5) rfl ?_
    refine XS.aloadN X3.here hexec rfl (hb hbytes d6) rfl rfl ?_
    refine iconstV X3.here hexec rfl 0 (hb hbytes d7) (by decide) ?_
    refine XS.iloadN X3.here hexec rfl (hb hbytes d8) rfl ?_
    exact Steps.refl _)
  obtain ⟨v6, T6, X6, E6, g6⟩ := X3.callS hexec (Cmp5.law l b A s.heap.size B3 o 0 len) hown (wks W (staticW U16 115 Cmp5.yN)) (wk W Cmp5.tab) (W := 0) (Nat.le_of_ble_eq_true rfl) (Nat.le_of_ble_eq_true rfl) (Nat.le_refl _) (by show 0 + len + 0 ≤ len; omega) (g := (mkF m 9 #[.val (.ref b), .val (.int (Int32.ofNat o)), .val (.int (Int32.ofNat len)), .val (.ref s.heap.size), .unset, .unset] [.int (Int32.ofNat len), .int (Int32.ofNat 0), .ref s.heap.size, .int (Int32.ofNat o), .ref b])) rfl (by rw [hml]; rfl) c5 (argsL := [.ref b, .int (Int32.ofNat o), .ref s.heap.size, .int (Int32.ofNat 0), .int (Int32.ofNat len)]) (rest := []) rfl rfl (by show 2 * 0 + 0 ≤ _; decide) (hb hbytes d9) (⟨rfl, hA3, ba3, hne, l1, by rw [bs3]; simp, hp⟩)
  obtain ⟨rfl, B6, p6, f6⟩ := E6
  have c7 : Steps p.tables e below (s₁.setTop (entryFrame m #[.ref b, .int (Int32.ofNat o), .int (Int32.ofNat len)] 6)) (T6.setTop (mkF m 12 #[.val (.ref b), .val (.int (Int32.ofNat o)), .val (.int (Int32.ofNat len)), .val (.ref s.heap.size), .unset, .unset] [.int (Int32.ofNat len)])) := g6
  have c8 : Steps p.tables e below (s₁.setTop (entryFrame m #[.ref b, .int (Int32.ofNat o), .int (Int32.ofNat len)] 6)) (T6.setTop (mkF m 58 #[.val (.ref b), .val (.int (Int32.ofNat o)), .val (.int (Int32.ofNat len)), .val (.ref s.heap.size), .val (.int (Int32.ofNat len)), .unset] [.ref s.heap.size])) := c7.trans (by
    refine XS.istore X6.here hexec rfl (hb hbytes d12) rfl rfl ?_
    refine XS.iload X6.here hexec rfl (hb hbytes d14) rfl ?_
    refine XS.iloadN X6.here hexec rfl (hb hbytes d16) rfl ?_
    refine XS.icmpYes X6.here hexec rfl (pc0 := 17) rfl (hb hbytes d17) rfl (ii_eq_t rfl) (by decide) rfl ?_
    refine XS.aloadN X6.here hexec rfl (hb hbytes d57) rfl rfl ?_
    exact Steps.refl _)
  have X8 := X6.wide (L' := []) (cells' := 1) (slots' := len) (fun x hx hlt => by
    simp only [List.nil_append, copyLocs, List.mem_map, List.mem_range] at hx
    obtain ⟨i, -, rfl⟩ := hx
    exact absurd hlt (Nat.lt_irrefl _)) (Nat.le_refl _) (by omega)
  exact ⟨T6, some (.ref s.heap.size), _, _, _, X8, rfl, rfl, rfl, (fun h => by cases h), ⟨⟨rfl, B6, ba3.like (X3.warmed.alike.symm.trans X6.warmed.alike) p6.1 f6.1 f6.2.1 f6.2.2.1, f6.2.1.trans bv3, by rw [X6.warmed.alike.findClass, f6.1]; exact bf3, by rw [f6.2.2.1, bs3]; simp, fun j hj => by rw [f6.2.2.2 j, if_pos (by omega)]; rfl, kp3.put p6 (Nat.le_refl _)⟩, by rw [p6.2.2, bh3, hh0]; simp⟩, fun fs hl => c8.trans (X8.areturnOut hexec rfl hret rfl (hb hbytes d58) hl)⟩
end Cmp3
namespace CodL
def yN : MethodName := ⟨"java/lang/StringUTF16", "coderFromArrayLen", "([BI)B"⟩
abbrev yB : ByteArray := jdk_52_method_15_code
theorem d0 : decode yB 0 = .ok (.iload_n 1, 1) := by decide +kernel
theorem d1 : decode yB 1 = .ok (.aload_n 0, 1) := by decide +kernel
theorem d2 : decode yB 2 = .ok (.arraylength, 1) := by decide +kernel
theorem d3 : decode yB 3 = .ok (.isub, 1) := by decide +kernel
theorem d4 : decode yB 4 = .ok (.bipush 31, 2) := by decide +kernel
theorem d6 : decode yB 6 = .ok (.iushr, 1) := by decide +kernel
theorem d7 : decode yB 7 = .ok (.i2b, 1) := by decide +kernel
theorem d8 : decode yB 8 = .ok (.ireturn, 1) := by decide +kernel
def site : List Cond := []
def tab : Cond := tabOf yN yB 2 (some .byte) site
def P (d : Addr) (B : Cell) (args : Array Value) (s : State) : Prop := args = #[.ref d, .int (Int32.ofNat B.slots.size)] ∧ Arr .byte d B s
def E (r : Option Value) (s u : State) : Prop := XT.PureE (some (.int 0)) r s u
/-- an array as long as the number of chars: LATIN1 -/
theorem law (l : Launch) (d : Addr) (B : Cell) : Law l yN 2 2 0 0 yB 2 (some .byte) site (P d B) E [] 0 0 := by
  refine Law.of_walk (plainFor_of_name (by decide +kernel)) (by decide +kernel) (by decide +kernel) (by decide) (fun _ _ h => by rw [h.1]; rfl) (fun _ U U' hal hh h => ⟨h.1, h.2.mv hal hh⟩) (fun r U U' V V' h1 hal h2 h => XT.PureE.mv r U U' V V' h1 hal h2 h) ?_
  intro p e s m args below meth c s₁ X0 hexec hbytes hml hret hlk hnm hown hh0 W hP
  obtain ⟨rfl, hB⟩ := hP
  have hB0 := hB.mv X0.warmed.alike hh0
  have c1 : Steps p.tables e below (s₁.setTop (entryFrame m #[.ref d, .int (Int32.ofNat B.slots.size)] 2)) (s₁.setTop (mkF m 0 #[.val (.ref d), .val (.int (Int32.ofNat B.slots.size))] [])) := entry rfl
  have c2 : Steps p.tables e below (s₁.setTop (entryFrame m #[.ref d, .int (Int32.ofNat B.slots.size)] 2)) (s₁.setTop (mkF m 2 #[.val (.ref d), .val (.int (Int32.ofNat B.slots.size))] [.ref d, .int (Int32.ofNat B.slots.size)])) := c1.trans (by
    refine XS.iloadN X0.here hexec rfl (hb hbytes d0) rfl ?_
    refine XS.aloadN X0.here hexec rfl (hb hbytes d1) rfl rfl ?_
    exact Steps.refl _)
  have c3 : Steps p.tables e below (s₁.setTop (entryFrame m #[.ref d, .int (Int32.ofNat B.slots.size)] 2)) (s₁.setTop (mkF m 8 #[.val (.ref d), .val (.int (Int32.ofNat B.slots.size))] [.int (lo8 (ushr (Int32.ofNat B.slots.size - Int32.ofNat B.slots.size) 31))])) := c2.trans (by
    refine X0.alen hexec hB0 rfl rfl (hb hbytes d2) ?_
    refine XS.isub X0.here hexec rfl (hb hbytes d3) rfl ?_
    refine bipushV X0.here hexec rfl 31 (hb hbytes d4) (by decide) ?_
    refine iushr X0.here hexec rfl (hb hbytes d6) rfl ?_
    refine i2b X0.here hexec rfl (hb hbytes d7) rfl ?_
    exact Steps.refl _)
  have e0 : lo8 (ushr (Int32.ofNat B.slots.size - Int32.ofNat B.slots.size) 31) = 0 := by rw [Int32.sub_self]; decide
  rw [e0] at c3
  exact ⟨s₁, some (.int 0), _, _, _, X0, rfl, rfl, rfl, (fun h => by cases h), ⟨rfl, hh0⟩, fun fs hl => c3.trans (X0.ireturnOut hexec hret rfl (Or.inr (Or.inr (Or.inl rfl))) (hb hbytes d8) hl)⟩
end CodL
/-- the String at a is Latin-1 over a new byte[] (the heap's one new cell): the low bytes of the len chars of A from o on; every cell but a is kept -/
def Got (a : Addr) (D : Cell) (fV fC : Field) (A : Cell) (o len : Nat) (r : Option Value) (s u : State) : Prop := r = none ∧ ∃ D' V : Cell, Blank "java/lang/String" a D' u ∧ Same D D' [fV.slot, fC.slot] ∧ D'.slots[fV.slot]? = some (.ref s.heap.size) ∧ D'.slots[fC.slot]? = some (.int 0) ∧ Arr .byte s.heap.size V u ∧ V.vm = .none ∧ u.vm.findClass "[B" = some V.cls ∧ V.slots.size = len ∧ (∀ j, j < len → V.slots[j]? = some (.int (lo8 (cv A (o + j))))) ∧ (∀ (y : Addr) (c : Cell), y ≠ a → s.heap[y]? = some c → u.heap[y]? = some c) ∧ u.heap.size = s.heap.size + 1
theorem Got.mv {a : Addr} {D A : Cell} {fV fC : Field} {o len : Nat} : ∀ r (U U' V V' : State), U'.heap = U.heap → V.vm.Alike V'.vm → V'.heap = V.heap → Got a D fV fC A o len r U V → Got a D fV fC A o len r U' V' :=
  fun r U U' V V' h1 hal h2 ⟨e0, D', X, a1, a2, a3, a4, a5, a6, a7, a8, a9, a10, a11⟩ => ⟨e0, D', X, a1.mv hal h2, a2, by rw [h1]; exact a3, a4, by rw [h1]; exact a5.mv hal h2, a6, by rw [hal.findClass]; exact a7, a8, a9, by rw [h1, h2]; exact a10, by rw [h1, h2]; exact a11⟩
namespace New4
def yN : MethodName := ⟨"java/lang/String", "<init>", "([CIILjava/lang/Void;)V"⟩
abbrev yB : ByteArray := jdk_42_method_149_code
theorem d0 : decode yB 0 = .ok (.aload_n 0, 1) := by decide +kernel
theorem d1 : decode yB 1 = .ok (.invokespecial 1, 3) := by decide +kernel
theorem d4 : decode yB 4 = .ok (.iload_n 3, 1) := by decide +kernel
theorem d5 : decode yB 5 = .ok (.ifCond (.ne) 22, 3) := by decide +kernel
theorem d27 : decode yB 27 = .ok (.getstatic 38, 3) := by decide +kernel
theorem d30 : decode yB 30 = .ok (.ifCond (.eq) 28, 3) := by decide +kernel
theorem d33 : decode yB 33 = .ok (.aload_n 1, 1) := by decide +kernel
theorem d34 : decode yB 34 = .ok (.iload_n 2, 1) := by decide +kernel
theorem d35 : decode yB 35 = .ok (.iload_n 3, 1) := by decide +kernel
theorem d36 : decode yB 36 = .ok (.invokestatic 177, 3) := by decide +kernel
theorem d39 : decode yB 39 = .ok (.astore 5, 2) := by decide +kernel
theorem d41 : decode yB 41 = .ok (.aload_n 0, 1) := by decide +kernel
theorem d42 : decode yB 42 = .ok (.aload 5, 2) := by decide +kernel
theorem d44 : decode yB 44 = .ok (.iload_n 3, 1) := by decide +kernel
theorem d45 : decode yB 45 = .ok (.invokestatic 47, 3) := by decide +kernel
theorem d48 : decode yB 48 = .ok (.putfield 15, 3) := by decide +kernel
theorem d51 : decode yB 51 = .ok (.aload_n 0, 1) := by decide +kernel
theorem d52 : decode yB 52 = .ok (.aload 5, 2) := by decide +kernel
theorem d54 : decode yB 54 = .ok (.putfield 9, 3) := by decide +kernel
theorem d57 : decode yB 57 = .ok (.return_, 1) := by decide +kernel
def site : List Cond := [.fieldLink "java/lang/String" 38 "java/lang/String" "COMPACT_STRINGS" "Z", Cmp3.tab, CodL.tab, .laysFinal "java/lang/String" "java/lang/String" "value" "[B", .fieldLink "java/lang/String" 9 "java/lang/String" "value" "[B", .laysFinal "java/lang/String" "java/lang/String" "coder" "B", .fieldLink "java/lang/String" 15 "java/lang/String" "coder" "B"] ++ objW "java/lang/String" 1 ++ staticW "java/lang/String" 177 Cmp3.yN ++ staticW "java/lang/String" 47 CodL.yN
def tab : Cond := tabOf yN yB 6 none site
def P (a : Addr) (D : Cell) (fV fC : Field) (b : Addr) (A : Cell) (z : Int32) (o len : Nat) (args : Array Value) (s : State) : Prop := args = #[.ref a, .ref b, .int (Int32.ofNat o), .int (Int32.ofNat len), .null] ∧ Blank "java/lang/String" a D s ∧ Found "java/lang/String" "value" "[B" fV s ∧ Found "java/lang/String" "coder" "B" fC s ∧ Ch b A s ∧ StaticIs s "java/lang/String" "COMPACT_STRINGS" "Z" (.int z) ∧ ¬ z = 0 ∧ 0 < len ∧ o + len ≤ A.slots.size ∧ len ≤ 536870912 ∧ ∀ i, i < len → ¬ 255 < cv A (o + i)
def E (a : Addr) (D : Cell) (fV fC : Field) (A : Cell) (o len : Nat) (r : Option Value) (s u : State) : Prop := Got a D fV fC A o len r s u
/-- len > 0, no char of the range above 255: a Latin-1 String of their low bytes -/
theorem law (l : Launch) (a : Addr) (D : Cell) (fV fC : Field) (b : Addr) (A : Cell) (z : Int32) (o len : Nat) : Law l yN 5 4 2 35 yB 6 none site (P a D fV fC b A z o len) (E a D fV fC A o len) [⟨a, fC.slot⟩, ⟨a, fV.slot⟩] 1 len := by
  refine Law.of_walk (plainFor_of_name (by decide +kernel)) (by decide +kernel) (by decide +kernel) (by decide) (fun _ _ h => by rw [h.1]; rfl) (fun _ U U' hal hh h => ⟨h.1, h.2.1.mv hal hh, h.2.2.1.al hal, h.2.2.2.1.al hal, h.2.2.2.2.1.mv hal hh, h.2.2.2.2.2.1.there hal hh, h.2.2.2.2.2.2⟩) (fun r U U' V V' h1 hal h2 h => Got.mv r U U' V V' h1 hal h2 h) ?_
  intro p e s m args below meth c s₁ X0 hexec hbytes hml hret hlk hnm hown hh0 W hP
  obtain ⟨rfl, hB, f1, f2, hA, s1, hz, l0, l1, l2, hp⟩ := hP
  have a31 := hA.1.2.2.2
  have c1 : Steps p.tables e below (s₁.setTop (entryFrame m #[.ref a, .ref b, .int (Int32.ofNat o), .int (Int32.ofNat len), .null] 6)) (s₁.setTop (mkF m 0 #[.val (.ref a), .val (.ref b), .val (.int (Int32.ofNat o)), .val (.int (Int32.ofNat len)), .val .null, .unset] [])) := entry rfl
  have c2 : Steps p.tables e below (s₁.setTop (entryFrame m #[.ref a, .ref b, .int (Int32.ofNat o), .int (Int32.ofNat len), .null] 6)) (s₁.setTop (mkF m 1 #[.val (.ref a), .val (.ref b), .val (.int (Int32.ofNat o)), .val (.int (Int32.ofNat len)), .val .null, .unset] [.ref a])) := c1.trans (by
    refine XS.aloadN X0.here hexec rfl (hb hbytes d0) rfl rfl ?_
    exact Steps.refl _)
  obtain ⟨T3, X3, q3, st3⟩ := X0.oinit hexec hown (wks W (objW "java/lang/String" 1)) (g := (mkF m 1 #[.val (.ref a), .val (.ref b), .val (.int (Int32.ofNat o)), .val (.int (Int32.ofNat len)), .val .null, .unset] [.ref a])) rfl (by rw [hml]; rfl) (rest := []) rfl (hb hbytes d1) (W := 0) (by show 2 * 0 + 0 ≤ _; decide) (Nat.le_of_ble_eq_true rfl) (Nat.le_of_ble_eq_true rfl)
  have hh3 := q3.trans hh0
  have c4 : Steps p.tables e below (s₁.setTop (entryFrame m #[.ref a, .ref b, .int (Int32.ofNat o), .int (Int32.ofNat len), .null] 6)) (T3.setTop (mkF m 27 #[.val (.ref a), .val (.ref b), .val (.int (Int32.ofNat o)), .val (.int (Int32.ofNat len)), .val .null, .unset] [])) := (c2.trans (st3 _ (Steps.refl _))).trans (by
    refine XS.iloadN X3.here hexec rfl (hb hbytes d4) rfl ?_
    refine XS.ifYes X3.here hexec rfl (pc0 := 5) rfl (hb hbytes d5) rfl (i0_ne_t (nz32 (by omega) l0)) (by decide) rfl ?_
    exact Steps.refl _)
  obtain ⟨T5, X5, q5, st5⟩ := X3.sget hexec hown (wk W (.fieldLink "java/lang/String" 38 "java/lang/String" "COMPACT_STRINGS" "Z")) s1 (fun _ _ h => by rw [hh3]; exact h) (g := (mkF m 27 #[.val (.ref a), .val (.ref b), .val (.int (Int32.ofNat o)), .val (.int (Int32.ofNat len)), .val .null, .unset] [])) rfl (hb hbytes d27)
  have hh5 := q5.trans hh3
  have c6 : Steps p.tables e below (s₁.setTop (entryFrame m #[.ref a, .ref b, .int (Int32.ofNat o), .int (Int32.ofNat len), .null] 6)) (T5.setTop (mkF m 30 #[.val (.ref a), .val (.ref b), .val (.int (Int32.ofNat o)), .val (.int (Int32.ofNat len)), .val .null, .unset] [.int z])) := c4.trans (st5 _ (Steps.refl _))
  have c7 : Steps p.tables e below (s₁.setTop (entryFrame m #[.ref a, .ref b, .int (Int32.ofNat o), .int (Int32.ofNat len), .null] 6)) (T5.setTop (mkF m 36 #[.val (.ref a), .val (.ref b), .val (.int (Int32.ofNat o)), .val (.int (Int32.ofNat len)), .val .null, .unset] [.int (Int32.ofNat len), .int (Int32.ofNat o), .ref b])) := c6.trans (by
    refine XS.ifNo X5.here hexec rfl (hb hbytes d30) rfl (i0_eq_f hz) ?_
    refine XS.aloadN X5.here hexec rfl (hb hbytes d33) rfl rfl ?_
    refine XS.iloadN X5.here hexec rfl (hb hbytes d34) rfl ?_
    refine XS.iloadN X5.here hexec rfl (hb hbytes d35) rfl ?_
    exact Steps.refl _)
  obtain ⟨v8, T8, X8, E8, g8⟩ := X5.callS hexec (Cmp3.law l b A o len) hown (wks W (staticW "java/lang/String" 177 Cmp3.yN)) (wk W Cmp3.tab) (W := 0) (Nat.le_of_ble_eq_true rfl) (Nat.le_of_ble_eq_true rfl) (Nat.le_refl _) (by show 0 + len ≤ len; omega) (g := (mkF m 36 #[.val (.ref a), .val (.ref b), .val (.int (Int32.ofNat o)), .val (.int (Int32.ofNat len)), .val .null, .unset] [.int (Int32.ofNat len), .int (Int32.ofNat o), .ref b])) rfl (by rw [hml]; rfl) c7 (argsL := [.ref b, .int (Int32.ofNat o), .int (Int32.ofNat len)]) (rest := []) rfl rfl (by show 2 * 0 + 0 ≤ _; decide) (hb hbytes d36) (⟨rfl, hA.mv X5.warmed.alike hh5, l1, l2, hp⟩)
  obtain ⟨e8, z8⟩ := E8
  obtain ⟨rfl, N, n1, n2, n3, n4, n5, n6⟩ := NewArr.mv _ T5 s _ _ hh5.symm (Vm.Alike.refl _) rfl e8
  rw [hh5] at z8
  have hB1 := hB.keep X8.warmed.alike (n6 _ _ hB.1)
  have hne : s.heap.size ≠ a := (Nat.ne_of_lt (Array.getElem?_eq_some_iff.mp hB.1).1).symm
  have c9 : Steps p.tables e below (s₁.setTop (entryFrame m #[.ref a, .ref b, .int (Int32.ofNat o), .int (Int32.ofNat len), .null] 6)) (T8.setTop (mkF m 39 #[.val (.ref a), .val (.ref b), .val (.int (Int32.ofNat o)), .val (.int (Int32.ofNat len)), .val .null, .unset] [.ref s.heap.size])) := g8
  have c10 : Steps p.tables e below (s₁.setTop (entryFrame m #[.ref a, .ref b, .int (Int32.ofNat o), .int (Int32.ofNat len), .null] 6)) (T8.setTop (mkF m 45 #[.val (.ref a), .val (.ref b), .val (.int (Int32.ofNat o)), .val (.int (Int32.ofNat len)), .val .null, .val (.ref s.heap.size)] [.int (Int32.ofNat N.slots.size), .ref s.heap.size, .ref a])) := by
    have hc : Steps p.tables e below (s₁.setTop (entryFrame m #[.ref a, .ref b, .int (Int32.ofNat o), .int (Int32.ofNat len), .null] 6)) (T8.setTop (mkF m 45 #[.val (.ref a), .val (.ref b), .val (.int (Int32.ofNat o)), .val (.int (Int32.ofNat len)), .val .null, .val (.ref s.heap.size)] [.int (Int32.ofNat len), .ref s.heap.size, .ref a])) := c9.trans (by
      refine XS.astore X8.here hexec rfl (hb hbytes d39) rfl rfl rfl ?_
      refine XS.aloadN X8.here hexec rfl (hb hbytes d41) rfl rfl ?_
      refine XS.aload X8.here hexec rfl (hb hbytes d42) rfl rfl ?_
      refine XS.iloadN X8.here hexec rfl (hb hbytes d44) rfl ?_
      exact Steps.refl _)
    rw [n4]; exact hc
  obtain ⟨v11, T11, X11, E11, g11⟩ := X8.callS hexec (CodL.law l s.heap.size N) hown (wks W (staticW "java/lang/String" 47 CodL.yN)) (wk W CodL.tab) (W := 1) (Nat.le_of_ble_eq_true rfl) (Nat.le_of_ble_eq_true rfl) (Nat.le_refl _) (by show 0 + len + 0 ≤ len; omega) (g := (mkF m 45 #[.val (.ref a), .val (.ref b), .val (.int (Int32.ofNat o)), .val (.int (Int32.ofNat len)), .val .null, .val (.ref s.heap.size)] [.int (Int32.ofNat N.slots.size), .ref s.heap.size, .ref a])) rfl (by rw [hml]; rfl) c10 (argsL := [.ref s.heap.size, .int (Int32.ofNat N.slots.size)]) (rest := [.ref a]) rfl rfl (by show 2 * 0 + (1 + 0) ≤ _; decide) (hb hbytes d45) (⟨rfl, n1⟩)
  obtain ⟨rfl, q11⟩ := E11
  have hB11 := hB1.mv (X8.warmed.alike.symm.trans X11.warmed.alike) q11
  have c12 : Steps p.tables e below (s₁.setTop (entryFrame m #[.ref a, .ref b, .int (Int32.ofNat o), .int (Int32.ofNat len), .null] 6)) (T11.setTop (mkF m 48 #[.val (.ref a), .val (.ref b), .val (.int (Int32.ofNat o)), .val (.int (Int32.ofNat len)), .val .null, .val (.ref s.heap.size)] [.int 0, .ref a])) := g11
  obtain ⟨T13, X13, p13, bl13, sl13, st13⟩ := X11.finit hexec hown (wk W (.fieldLink "java/lang/String" 15 "java/lang/String" "coder" "B")) (Or.inr ⟨_, (wk W (.laysFinal "java/lang/String" "java/lang/String" "coder" "B"))⟩) (Or.inl ⟨rfl, hnm⟩) f2 (Or.inl rfl) hB11 (t := .byte) (by decide +kernel) rfl (g := (mkF m 48 #[.val (.ref a), .val (.ref b), .val (.int (Int32.ofNat o)), .val (.int (Int32.ofNat len)), .val .null, .val (.ref s.heap.size)] [.int 0, .ref a])) rfl (rest := []) rfl (hb hbytes d48)
  have c14 : Steps p.tables e below (s₁.setTop (entryFrame m #[.ref a, .ref b, .int (Int32.ofNat o), .int (Int32.ofNat len), .null] 6)) (T13.setTop (mkF m 54 #[.val (.ref a), .val (.ref b), .val (.int (Int32.ofNat o)), .val (.int (Int32.ofNat len)), .val .null, .val (.ref s.heap.size)] [.ref s.heap.size, .ref a])) := (c12.trans (st13 _ (Steps.refl _))).trans (by
    refine XS.aloadN X13.here hexec rfl (hb hbytes d51) rfl rfl ?_
    refine XS.aload X13.here hexec rfl (hb hbytes d52) rfl rfl ?_
    exact Steps.refl _)
  obtain ⟨T15, X15, p15, bl15, sl15, st15⟩ := X13.finit hexec hown (wk W (.fieldLink "java/lang/String" 9 "java/lang/String" "value" "[B")) (Or.inr ⟨_, (wk W (.laysFinal "java/lang/String" "java/lang/String" "value" "[B"))⟩) (Or.inl ⟨rfl, hnm⟩) f1 (Or.inl rfl) bl13 (t := (.array .byte)) (by decide +kernel) rfl (g := (mkF m 54 #[.val (.ref a), .val (.ref b), .val (.int (Int32.ofNat o)), .val (.int (Int32.ofNat len)), .val .null, .val (.ref s.heap.size)] [.ref s.heap.size, .ref a])) rfl (rest := []) rfl (hb hbytes d54)
  have c16 : Steps p.tables e below (s₁.setTop (entryFrame m #[.ref a, .ref b, .int (Int32.ofNat o), .int (Int32.ofNat len), .null] 6)) (T15.setTop (mkF m 57 #[.val (.ref a), .val (.ref b), .val (.int (Int32.ofNat o)), .val (.int (Int32.ofNat len)), .val .null, .val (.ref s.heap.size)] [])) := c14.trans (st15 _ (Steps.refl _))
  have ap := apart (Or.inr ⟨_, (wk W (.laysFinal "java/lang/String" "java/lang/String" "value" "[B"))⟩) (Or.inr ⟨_, (wk W (.laysFinal "java/lang/String" "java/lang/String" "coder" "B"))⟩) f1 f2 (t₁ := .array .byte) (t₂ := .byte) (by decide +kernel) (by decide +kernel) (by decide)
  have al := X8.warmed.alike.symm.trans X15.warmed.alike
  have n7 : T11.heap[s.heap.size]? = some N := by rw [q11]; exact n1.1
  exact ⟨T15, none, _, _, _, X15, by simp, rfl, by omega, (fun _ => rfl), ⟨rfl, _, N, bl15, ((Same.refl D _).set _ (by simp)).set _ (by simp), sl15, (Cell.slots_setSlot_ne _ ap).trans sl13, n1.keep al (p15.other hne (p13.other hne n7)), n2, by rw [al.findClass]; exact n3, n4, n5, fun y c h1 h2 => p15.other h1 (p13.other h1 (by rw [q11]; exact n6 y c h2)), by rw [p15.2.2, p13.2.2, q11]; exact z8⟩, fun fs hl => c16.trans (X15.returnOut hexec hret (hb hbytes d57) hl)⟩
end New4
namespace New1
def yN : MethodName := ⟨"java/lang/String", "<init>", "([C)V"⟩
abbrev yB : ByteArray := jdk_42_method_3_code
theorem d0 : decode yB 0 = .ok (.aload_n 0, 1) := by decide +kernel
theorem d1 : decode yB 1 = .ok (.aload_n 1, 1) := by decide +kernel
theorem d2 : decode yB 2 = .ok (.iconst 0, 1) := by decide +kernel
theorem d3 : decode yB 3 = .ok (.aload_n 1, 1) := by decide +kernel
theorem d4 : decode yB 4 = .ok (.arraylength, 1) := by decide +kernel
theorem d5 : decode yB 5 = .ok (.aconst_null, 1) := by decide +kernel
theorem d6 : decode yB 6 = .ok (.invokespecial 27, 3) := by decide +kernel
theorem d9 : decode yB 9 = .ok (.return_, 1) := by decide +kernel
def site : List Cond := [New4.tab] ++ initW "java/lang/String" 27 New4.yN
def tab : Cond := tabOf yN yB 2 none site
def P (a : Addr) (D : Cell) (fV fC : Field) (b : Addr) (A : Cell) (z : Int32) (args : Array Value) (s : State) : Prop := args = #[.ref a, .ref b] ∧ Blank "java/lang/String" a D s ∧ Found "java/lang/String" "value" "[B" fV s ∧ Found "java/lang/String" "coder" "B" fC s ∧ Ch b A s ∧ StaticIs s "java/lang/String" "COMPACT_STRINGS" "Z" (.int z) ∧ ¬ z = 0 ∧ 0 < A.slots.size ∧ A.slots.size ≤ 536870912 ∧ ∀ i, i < A.slots.size → ¬ 255 < cv A i
def E (a : Addr) (D : Cell) (fV fC : Field) (A : Cell) (r : Option Value) (s u : State) : Prop := Got a D fV fC A 0 A.slots.size r s u
/-- new String(chars), not empty, no char above 255: a Latin-1 String of their low bytes -/
theorem law (l : Launch) (a : Addr) (D : Cell) (fV fC : Field) (b : Addr) (A : Cell) (z : Int32) : Law l yN 2 1 3 52 yB 2 none site (P a D fV fC b A z) (E a D fV fC A) [⟨a, fC.slot⟩, ⟨a, fV.slot⟩] 1 A.slots.size := by
  refine Law.of_walk (plainFor_of_name (by decide +kernel)) (by decide +kernel) (by decide +kernel) (by decide) (fun _ _ h => by rw [h.1]; rfl) (fun _ U U' hal hh h => ⟨h.1, h.2.1.mv hal hh, h.2.2.1.al hal, h.2.2.2.1.al hal, h.2.2.2.2.1.mv hal hh, h.2.2.2.2.2.1.there hal hh, h.2.2.2.2.2.2⟩) (fun r U U' V V' h1 hal h2 h => Got.mv r U U' V V' h1 hal h2 h) ?_
  intro p e s m args below meth c s₁ X0 hexec hbytes hml hret hlk hnm hown hh0 W hP
  obtain ⟨rfl, hB, f1, f2, hA, s1, hz, l0, l2, hp⟩ := hP
  have c1 : Steps p.tables e below (s₁.setTop (entryFrame m #[.ref a, .ref b] 2)) (s₁.setTop (mkF m 0 #[.val (.ref a), .val (.ref b)] [])) := entry rfl
  have c2 : Steps p.tables e below (s₁.setTop (entryFrame m #[.ref a, .ref b] 2)) (s₁.setTop (mkF m 6 #[.val (.ref a), .val (.ref b)] [.null, .int (Int32.ofNat A.slots.size), .int 0, .ref b, .ref a])) := c1.trans (by
    refine XS.aloadN X0.here hexec rfl (hb hbytes d0) rfl rfl ?_
    refine XS.aloadN X0.here hexec rfl (hb hbytes d1) rfl rfl ?_
    refine iconstV X0.here hexec rfl 0 (hb hbytes d2) (by decide) ?_
    refine XS.aloadN X0.here hexec rfl (hb hbytes d3) rfl rfl ?_
    refine X0.alen hexec (hA.1.mv X0.warmed.alike hh0) rfl rfl (hb hbytes d4) ?_
    refine XS.aconstNull X0.here hexec rfl (hb hbytes d5) ?_
    exact Steps.refl _)
  obtain ⟨v3, T3, X3, E3, g3⟩ := X0.callN hexec (New4.law l a D fV fC b A z 0 A.slots.size) rfl hown (wks W (initW "java/lang/String" 27 New4.yN)) (W New4.tab (by simp only [site, List.mem_cons, List.mem_append, true_or, or_true])) (W := 0) (Nat.le_of_ble_eq_true rfl) (Nat.le_of_ble_eq_true rfl) (Nat.le_refl _) (by show 0 + A.slots.size ≤ A.slots.size; omega) (g := (mkF m 6 #[.val (.ref a), .val (.ref b)] [.null, .int (Int32.ofNat A.slots.size), .int (Int32.ofNat 0), .ref b, .ref a])) rfl (by rw [hml]; rfl) c2 (argsL := [.ref b, .int (Int32.ofNat 0), .int (Int32.ofNat A.slots.size), .null]) (rest := []) rfl rfl (by show 2 * 0 + 0 ≤ _; decide) (hb hbytes d6) (⟨rfl, hB.mv X0.warmed.alike hh0, f1.al X0.warmed.alike, f2.al X0.warmed.alike, hA.mv X0.warmed.alike hh0, s1.there X0.warmed.alike hh0, hz, l0, by omega, l2, fun i hi => by rw [Nat.zero_add]; exact hp i hi⟩)
  have e0 := Got.mv _ s₁ s _ _ hh0.symm (Vm.Alike.refl _) rfl E3
  obtain rfl := e0.1
  have c4 : Steps p.tables e below (s₁.setTop (entryFrame m #[.ref a, .ref b] 2)) (T3.setTop (mkF m 9 #[.val (.ref a), .val (.ref b)] [])) := g3
  exact ⟨T3, none, _, _, _, X3, by simp, rfl, by omega, (fun _ => rfl), e0, fun fs hl => c4.trans (X3.returnOut hexec hret (hb hbytes d9) hl)⟩
theorem pays {l : Launch} {R : Room} {p : Program} {e : Env} {below : List Frame} {s : State} {sargs : Array Value} {len W : Nat} (a : Addr) (D : Cell) (fV fC : Field) (b : Addr) (A : Cell) (z : Int32) (htab : tab.before sargs s = true) (hfr : 4 ≤ R.frames) (hlo : W + 65 ≤ R.locals) :
    Back l R p e below s sargs yN len W (fun A₁ a₁ => A₁.cells + 1 ≤ R.cells ∧ A₁.slots + A.slots.size ≤ R.slots ∧ P a D fV fC b A z a₁ A₁.U) (fun A₁ _ v₁ B₁ => E a D fV fC A v₁ A₁.U B₁.U ∧ B₁.locs = A₁.locs ++ [⟨a, fC.slot⟩, ⟨a, fV.slot⟩] ∧ B₁.cells = A₁.cells + 1 ∧ B₁.slots = A₁.slots + A.slots.size) :=
  (law l a D fV fC b A z).pays htab hfr (by omega)
end New1
/-- the byte, read back as charAt reads it, is the char -/
theorem lo8_mask {x : Int32} (h0 : ¬ x < 0) (h1 : ¬ 255 < x) : lo8 x &&& 255 = x := by
  have t : ∀ k : Fin 256, lo8 (Int32.ofNat k.val) &&& 255 = Int32.ofNat k.val := by decide +kernel
  rw [Int32.lt_iff_toInt_lt] at h0 h1
  have e0 : (0 : Int32).toInt = 0 := rfl
  have e1 : (255 : Int32).toInt = 255 := rfl
  obtain ⟨k, hk⟩ : ∃ k : Nat, x.toInt = k := ⟨x.toInt.toNat, by omega⟩
  have hx : x = Int32.ofNat k := Int32.toInt_inj.mp (by rw [hk, Int32.toInt_ofNat_small (by omega)])
  rw [hx]
  exact t ⟨k, by omega⟩
end StrChars
namespace StrChars.Road
open Jvm Sem ClassFile Op Lib Jvm.Stand Jvm.Free Jvm.Free.XT
open Jvm.Lib.Cold (StaticIs)
abbrev ST : String := "java/lang/String"
/-- every table word that New1's law asks, flat -/
abbrev words : List Jvm.Cond := [.code New1.yN New1.yB 2 none, .initialized ST, .methodLink ST 27 New4.yN, .instanceMethod New4.yN,
  .code New4.yN New4.yB 6 none, .fieldLink ST 38 ST "COMPACT_STRINGS" "Z", .laysFinal ST ST "value" "[B", .fieldLink ST 9 ST "value" "[B", .laysFinal ST ST "coder" "B", .fieldLink ST 15 ST "coder" "B",
  .methodLink ST 1 Lib.objectInit, .instanceMethod Lib.objectInit, .code Lib.objectInit ⟨#[0xb1]⟩ 1 none, .methodLink ST 177 Cmp3.yN, .static Cmp3.yN, .methodLink ST 47 CodL.yN, .static CodL.yN,
  .code Cmp3.yN Cmp3.yB 6 (some (.array .byte)), .initialized U16, .arrayClass .byte, .methodLink U16 115 Cmp5.yN, .static Cmp5.yN, .code Cmp5.yN Cmp5.yB 7 (some .int), .code CodL.yN CodL.yB 2 (some .byte)]
theorem tab_of {a : Array Value} {s : State} (h : ∀ w ∈ words, w.before a s = true) : New1.tab.before a s = true := by
  have h5 : Cmp5.tab.before a s = true := unparts (wk h (.code Cmp5.yN Cmp5.yB 7 (some .int))) (wks h (.initialized Cmp5.yN.cls :: Cmp5.site))
  have hc : CodL.tab.before a s = true := unparts (wk h (.code CodL.yN CodL.yB 2 (some .byte))) (wks h (.initialized CodL.yN.cls :: CodL.site))
  have q5 : ∀ w ∈ Cmp5.tab :: words, w.before a s = true := fun w hw => (List.mem_cons.mp hw).elim (fun e => e ▸ h5) (h w)
  have h3 : Cmp3.tab.before a s = true := unparts (wk q5 (.code Cmp3.yN Cmp3.yB 6 (some (.array .byte)))) (wks q5 (.initialized Cmp3.yN.cls :: Cmp3.site))
  have q3 : ∀ w ∈ Cmp3.tab :: CodL.tab :: words, w.before a s = true := fun w hw => (List.mem_cons.mp hw).elim (fun e => e ▸ h3) fun hw => (List.mem_cons.mp hw).elim (fun e => e ▸ hc) (h w)
  have h4 : New4.tab.before a s = true := unparts (wk q3 (.code New4.yN New4.yB 6 none)) (wks q3 (.initialized New4.yN.cls :: New4.site))
  have q4 : ∀ w ∈ New4.tab :: words, w.before a s = true := fun w hw => (List.mem_cons.mp hw).elim (fun e => e ▸ h4) (h w)
  exact unparts (wk q4 (.code New1.yN New1.yB 2 none)) (wks q4 (.initialized New1.yN.cls :: New1.site))
/-- the words ride from the start Z to the walk's own state -/
theorem moved {Z s : State} {a0 args : Array Value} (hZ : Z.Warmed39 s.vm) (hw : ∀ d ∈ words, d.before a0 Z = true) : ∀ d ∈ words, d.before args s = true := fun d hd => by
  have q := hw d hd
  have t : ∀ d ∈ words, d = .arrayClass .byte ∨ (d.onTables && d.keepsFace) = true := by decide +kernel
  rcases t d hd with rfl | t
  · exact RoadKit.mvA hZ q
  · exact RoadKit.mv hZ q t
/-- WHAT COMES BACK, over the tables of the start Z: h the heap at the call, h' behind it -/
def Q (Z : State) (x : Addr) (A : Cell) (h : Heap) (v : Option Value) (h' : Heap) (L : List Loc) : Prop := v = none ∧ (∀ y ∈ L, y.base = x) ∧ RoadKit.Keep h h' [x] ∧ h'.size = h.size + 1 ∧ RoadKit.Exa Z h' x ST ∧ RoadKit.Fld Z h' x ST "value" "[B" (.ref h.size) ∧ RoadKit.Fld Z h' x ST "coder" "B" (.int 0) ∧
  (∃ V : Cell, RoadKit.Arr Z h' h.size V .byte ∧ V.vm = .none ∧ Z.vm.findClass "[B" = some V.cls ∧ V.slots.size = A.slots.size ∧ ∀ j, j < A.slots.size → V.slots[j]? = some (.int (lo8 (cv A j)))) ∧
  ∀ (O n d : String) (w : Value), RoadKit.Fld Z h x O n d w → RoadKit.slotOf Z O n d ≠ RoadKit.slotOf Z ST "value" "[B" → RoadKit.slotOf Z O n d ≠ RoadKit.slotOf Z ST "coder" "B" → RoadKit.Fld Z h' x O n d w
/-- **new String(chars) AT A CALL, IN THE ROAD'S FORM**: for specialBack behind newO: x the fresh String, b the char[] with the cell A -/
theorem back {p : Program} {l : Launch} {e : Env} {R : Room} {s : State} {args : Array Value} {below : List Frame} {len W : Nat} {Z : State} {a0 : Array Value} {h : Heap} (hZ : Z.Warmed39 s.vm) (hw : ∀ d ∈ words, d.before a0 Z = true) {kI : Nat} (wi : (Jvm.Cond.instantiable ST kI).before a0 Z = true)
    {x b : Addr} {A : Cell} {z : Int32} {v0 c0 : Value} (E : RoadKit.Exa Z h x ST) (V : RoadKit.Fld Z h x ST "value" "[B" v0) (C : RoadKit.Fld Z h x ST "coder" "B" c0) (K : RoadKit.Arr Z h b A .char) (hty : Typed .char A) (S : RoadKit.Sta Z h ST "COMPACT_STRINGS" "Z" (.int z)) (hz : ¬ z = 0)
    (l0 : 0 < A.slots.size) (l2 : A.slots.size ≤ 536870912) (hp : ∀ i, i < A.slots.size → ¬ 255 < cv A i) (hfr : 4 ≤ R.frames) (hlo : W + 65 ≤ R.locals) :
    Back l R p e below s args New1.yN len W (fun P a => a = #[.ref x, .ref b] ∧ P.U.heap = h ∧ P.cells + 1 ≤ R.cells ∧ P.slots + A.slots.size ≤ R.slots)
      (fun P _ v B => ∃ L, Q Z x A h v B.U.heap L ∧ B.locs = P.locs ++ L ∧ B.cells = P.cells + 1 ∧ B.slots = P.slots + A.slots.size) := by
  intro m meth c P g ig mk a X hg hsize hdg hW hn hp'
  obtain ⟨rfl, rfl, r1, r2⟩ := hp'
  have al : Z.vm.Alike P.U.vm := hZ.alike.trans X.warmed.alike
  obtain ⟨D, cfV, kV, iV, fV, hD, gV, stV, knV, obV, asV, slV⟩ := id V
  obtain ⟨D', cfC, kC, iC, fC, hD', gC, stC, -, -, asC, slC⟩ := id C
  cases hD.symm.trans hD'
  obtain ⟨D2, kD, e1, e2, e3, e4, e5⟩ := id E
  cases hD.symm.trans e1
  obtain ⟨c2, k2, i1, i2, i3, -⟩ := Cond.instantiable_spec wi
  cases e2.symm.trans i1
  cases e3.symm.trans i2
  obtain ⟨kU, u1, u2⟩ := al.2.2 _ _ e3
  have hB : Blank ST x D P.U := ⟨hD, ⟨knV, fun q hq => by rw [hq] at obV; cases obV⟩, by rw [al.findClass]; exact e2, kU, u1, by rw [u2]; exact i3, by rw [u2]; exact e5 i3⟩
  have F1 : Found ST "value" "[B" fV P.U := ⟨SBG.found_only al ⟨cfV, kV, iV, gV⟩, stV⟩
  have F2 : Found ST "coder" "B" fC P.U := ⟨SBG.found_only al ⟨cfC, kC, iC, gC⟩, stC⟩
  have hA : Ch b A P.U := ⟨⟨K.1, State.isArrayOf_alike al K.2.1, K.2.2, by omega⟩, hty⟩
  have hS : StaticIs P.U ST "COMPACT_STRINGS" "Z" (.int z) := by
    obtain ⟨cfS, iS, kS, fS, st, cS, t1, t2, t3, t4, t5, t6, t7⟩ := S
    exact StaticIs.there (s := { Z with heap := P.U.heap }) ⟨cfS, iS, kS, fS, st, cS, t1, t2, t3, t4, t5, (fun q => by rw [q] at t6; cases t6), t7⟩ al rfl
  obtain ⟨v, B, X', ⟨⟨hv, E', V', q1, q2, q3, q4, q5, q6, q7, q8, q9, q10, q11⟩, hl, hc, hs⟩, st⟩ := New1.pays x D fV fC b A z (tab_of (moved hZ hw)) hfr hlo m meth c P g ig mk _ X hg hsize hdg hW hn ⟨r1, r2, rfl, hB, F1, F2, hA, hS, hz, l0, l2, hp⟩
  have al' : Z.vm.Alike B.U.vm := hZ.alike.trans X'.warmed.alike
  have hsz : E'.slots.size = D.slots.size := by
    obtain ⟨-, -, -, kB, w1, w2, w3⟩ := q1
    obtain ⟨kB', y1, y2⟩ := al'.2.2 _ _ e3
    rw [q2.2.1] at w1
    cases w1.symm.trans y1
    rw [w3, e5 i3, y2]
  refine ⟨v, B, X', ⟨_, ⟨hv, ?_, ⟨by omega, fun y cy hy hn' => q10 y cy (by simpa using hn') hy, fun y cy hy => ?_⟩, q11, ⟨E', _, q1.1, by rw [q2.2.1]; exact e2, by rw [q2.2.1]; exact e3, by rw [q2.1]; exact obV, fun _ => by rw [hsz]; exact e5 i3⟩,
    ⟨E', cfV, kV, iV, fV, q1.1, gV, stV, by rw [q2.1]; exact knV, by rw [q2.1]; exact obV, by rw [q2.2.1]; exact asV, q3⟩, ⟨E', cfC, kC, iC, fC, q1.1, gC, stC, by rw [q2.1]; exact knV, by rw [q2.1]; exact obV, by rw [q2.2.1]; exact asC, q4⟩,
    ⟨V', ⟨q5.1, State.isArrayOf_alike al'.symm q5.2.1, q5.2.2.1⟩, q6, by rw [← al'.findClass]; exact q7, q8, fun j hj => by have := q9 j hj; rwa [Nat.zero_add] at this⟩, fun O n d w F n1 n2 => ?_⟩, hl, hc, hs⟩, st⟩
  · intro y hy
    simp only [List.mem_cons, List.not_mem_nil, or_false] at hy
    rcases hy with rfl | rfl <;> rfl
  · by_cases q : y = x
    · subst q
      cases hD.symm.trans hy
      exact ⟨E', q1.1, q2.2.1, q2.1, hsz⟩
    · exact ⟨cy, q10 y cy q hy, rfl, rfl, rfl⟩
  · obtain ⟨D3, cf, k, i, f, g1, g2, g3, g4, g5, g6, g7⟩ := F
    cases hD.symm.trans g1
    simp only [RoadKit.slotOf, g2, gV, gC, Option.map_some, Option.getD_some] at n1 n2
    exact ⟨E', cf, k, i, f, q1.1, g2, g3, by rw [q2.1]; exact g4, by rw [q2.1]; exact g5, by rw [q2.2.1]; exact g6, by rw [q2.2.2 f.slot (by simp [n1, n2])]; exact g7⟩
end StrChars.Road
namespace StrChars.Road
open Jvm Sem ClassFile Op Lib Jvm.Stand Jvm.Free Jvm.Free.XT
/-- WHAT COMES BACK, the byte[] as a list of values -/
def QA (Z : State) (x : Addr) (zn : Int32) (cs : List Int32) (h : Heap) (v : Option Value) (h' : Heap) (L : List Loc) : Prop := v = none ∧ (∀ y ∈ L, y.base = x) ∧ RoadKit.Keep h h' [x] ∧ h'.size = h.size + 1 ∧ RoadKit.Exa Z h' x ST ∧ RoadKit.Fld Z h' x ST "value" "[B" (.ref h.size) ∧ RoadKit.Fld Z h' x ST "coder" "B" (.int 0) ∧
  (∃ kb, Z.vm.findClass "[B" = some kb ∧ RoadKit.Arv Z h' h.size kb .byte zn (cs.map fun c => .int (lo8 c)) (.int 0)) ∧
  ∀ (O n d : String) (w : Value), RoadKit.Fld Z h x O n d w → RoadKit.slotOf Z O n d ≠ RoadKit.slotOf Z ST "value" "[B" → RoadKit.slotOf Z O n d ≠ RoadKit.slotOf Z ST "coder" "B" → RoadKit.Fld Z h' x O n d w
/-- **new String(chars) AT A CALL, THE ARRAYS AS LISTS**: the char[] at b holds cs, not empty, no char above 255 -/
theorem backArv {p : Program} {l : Launch} {e : Env} {R : Room} {s : State} {args : Array Value} {below : List Frame} {len W : Nat} {Z : State} {a0 : Array Value} {h : Heap} (hZ : Z.Warmed39 s.vm) (hw : ∀ d ∈ words, d.before a0 Z = true) {kI : Nat} (wi : (Jvm.Cond.instantiable ST kI).before a0 Z = true)
    {x b : Addr} {k : ClassId} {zn z : Int32} {cs : List Int32} {dv v0 c0 : Value} (E : RoadKit.Exa Z h x ST) (V : RoadKit.Fld Z h x ST "value" "[B" v0) (C : RoadKit.Fld Z h x ST "coder" "B" c0) (K : RoadKit.Arv Z h b k .char zn (cs.map Value.int) dv) (S : RoadKit.Sta Z h ST "COMPACT_STRINGS" "Z" (.int z)) (hz : ¬ z = 0)
    (hlen : zn.toNatClampNeg = cs.length) (h0 : 0 < cs.length) (hbig : cs.length ≤ 536870912) (hall : ∀ c ∈ cs, ¬ 255 < c) (hfr : 4 ≤ R.frames) (hlo : W + 65 ≤ R.locals) :
    Back l R p e below s args New1.yN len W (fun P a => a = #[.ref x, .ref b] ∧ P.U.heap = h ∧ P.cells + 1 ≤ R.cells ∧ P.slots + cs.length ≤ R.slots)
      (fun P _ v B => ∃ L, QA Z x zn cs h v B.U.heap L ∧ B.locs = P.locs ++ L ∧ B.cells = P.cells + 1 ∧ B.slots = P.slots + cs.length) := by
  obtain ⟨A, K1, K2, K3, K4, K5, K6⟩ := K
  have e : A.slots.size = cs.length := K3.trans hlen
  have hat : ∀ (i : Nat) (hi : i < cs.length), A.slots[i]? = some (.int cs[i]) := fun i hi => by rw [K5 i (by omega)]; simp [List.getD_eq_getElem?_getD, hi]
  have hcv : ∀ (i : Nat) (hi : i < cs.length), cv A i = cs[i] := fun i hi => by unfold cv; rw [hat i hi]
  have hty : Typed .char A := fun i v hv => by
    have hi : i < A.slots.size := (Array.getElem?_eq_some_iff.mp hv).1
    have q := K5 i hi
    rw [hv] at q
    rw [Option.some.inj q]
    exact K6 i hi
  refine Back.mono (back hZ hw wi E V C K1 hty S hz (by omega) (by omega) (fun i hi => by rw [hcv i (by omega)]; exact hall _ (List.getElem_mem _)) hfr hlo) (fun P a hp => ⟨hp.1, hp.2.1, hp.2.2.1, by rw [e]; exact hp.2.2.2⟩) (fun P a v B hp hq => ?_)
  obtain ⟨L, ⟨q1, q2, q3, q4, q5, q6, q7, ⟨V', v1, v2, v3, v4, v5⟩, q9⟩, hl, hc, hs⟩ := hq
  refine ⟨L, ⟨q1, q2, q3, q4, q5, q6, q7, ⟨V'.cls, v3, V', v1, rfl, by rw [v4, e, hlen], K4, fun i hi => ?_, fun i hi => ?_⟩, q9⟩, hl, hc, by rw [hs, e]⟩
  · have hi' : i < cs.length := by omega
    rw [v5 i (by omega), hcv i hi']; simp [List.getD_eq_getElem?_getD, hi']
  · have hi' : i < cs.length := by omega
    simp only [List.getD_eq_getElem?_getD, List.getElem?_map, List.getElem?_eq_getElem hi', Option.map_some, Option.getD_some]
    exact fits_lo8 _
end StrChars.Road
namespace StrChars.Road
open Jvm Sem ClassFile Op Lib Jvm.Stand Jvm.Free Jvm.Free.XT
/-- WHAT COMES BACK, in the writer's own shape -/
def QV (Z : State) (x : Addr) (N : Int32) (bs : List Int32) (h : Heap) (n0 : Nat) (v : Option Value) (h' : Heap) (L : List Loc) : Prop := v = none ∧ RoadKit.Fr n0 L ∧ RoadKit.Keep h h' [x] ∧ RoadKit.Exa Z h' x ST ∧ RoadKit.Fld Z h' x ST "coder" "B" (.int 0) ∧
  ∃ (t : Addr) (kb : ClassId), n0 ≤ t ∧ h.size ≤ t ∧ ¬ t = x ∧ RoadKit.Fld Z h' x ST "value" "[B" (.ref t) ∧ RoadKit.Arv Z h' t kb .byte N (bs.map Value.int) (.int 0)
/-- **new String(chars) AT A CALL, FOR THE WRITER**: a char[] of n known ints, each 0 to 255 -/
theorem backV {p : Program} {l : Launch} {e : Env} {R : Room} {s : State} {args : Array Value} {below : List Frame} {len W : Nat} {Z : State} {a0 : Array Value} {h : Heap} (hZ : Z.Warmed39 s.vm) (hw : ∀ d ∈ words, d.before a0 Z = true) {kI : Nat} (wi : (Jvm.Cond.instantiable ST kI).before a0 Z = true)
    {x b : Addr} {kC : ClassId} {cs bs : List Int32} {d v0 c0 : Value} {z N : Int32} {n n0 : Nat} (hx0 : n0 ≤ x) (hh0 : n0 ≤ h.size) (E : RoadKit.Exa Z h x ST) (V : RoadKit.Fld Z h x ST "value" "[B" v0) (C : RoadKit.Fld Z h x ST "coder" "B" c0) (K : RoadKit.Arv Z h b kC .char N (cs.map Value.int) d) (S : RoadKit.Sta Z h ST "COMPACT_STRINGS" "Z" (.int z)) (hz : ¬ z = 0)
    (hn : cs.length = n) (hN : N = Int32.ofNat n) (l0 : 0 < n) (l2 : n ≤ 4000) (hp : ∀ c ∈ cs, ¬ c < 0 ∧ ¬ (255 : Int32) < c) (hb : bs = cs.map (fun c => c.toInt8.toInt32)) (hfr : 4 ≤ R.frames) (hlo : W + 65 ≤ R.locals) :
    Back l R p e below s args (⟨"java/lang/String", "<init>", "([C)V"⟩ : MethodName) len W (fun P a => a = #[.ref x, .ref b] ∧ P.U.heap = h ∧ P.cells + 1 ≤ R.cells ∧ P.slots + n ≤ R.slots)
      (fun P _ v B => ∃ L, QV Z x N bs h n0 v B.U.heap L ∧ B.locs = P.locs ++ L ∧ B.cells = P.cells + 1 ∧ B.slots = P.slots + n) := by
  subst hn hN hb
  refine Back.mono (backArv hZ hw wi E V C K S hz (n32 (by omega)) l0 (by omega) (fun c hc => (hp c hc).2) hfr hlo) (fun P a hp => hp) (fun P a v B hp hq => ?_)
  obtain ⟨L, ⟨q1, q2, q3, q4, q5, q6, q7, ⟨kb, v1, v2⟩, q9⟩, hl, hc, hs⟩ := hq
  exact ⟨L, ⟨q1, fun y hy => by rw [q2 y hy]; exact hx0, q3, q5, q7, h.size, kb, hh0, Nat.le_refl _, Nat.ne_of_gt E.lt, q6, by rw [List.map_map]; exact v2⟩, hl, hc, hs⟩
end StrChars.Road
namespace StrChars
open Jvm Sem ClassFile Op Lib Jvm.Stand Jvm.Free.XT Jvm.Free.ALB Jvm.Free.JM Jvm.Free
open Jvm.Lib.Cold (StaticIs)
def hi8 (x : Int32) : Int32 := lo8 (x >>> ((8 : Int32) &&& 31))
/-- what StringUTF16.getChar makes of two bytes -/
def pairCh (u v : Int32) : Int32 := (((u &&& 255) <<< ((0 : Int32) &&& 31)) ||| ((v &&& 255) <<< ((8 : Int32) &&& 31))).toUInt32.toUInt16.toUInt32.toInt32
theorem lo8_and (x : Int32) : (lo8 x &&& 255).toBitVec.toNat = x.toBitVec.toNat % 256 := by
  have h : (lo8 x).toBitVec = (x.toBitVec.signExtend 8).signExtend 32 := by rw [lo8, Int8.toBitVec_toInt32, Int32.toBitVec_toInt8]
  rw [Int32.toBitVec_and, BitVec.toNat_and, h]
  have e : ((x.toBitVec.signExtend 8).signExtend 32).toNat % 256 = x.toBitVec.toNat % 256 := by
    rw [BitVec.toNat_signExtend]
    have hlt := x.toBitVec.isLt
    simp only [BitVec.toNat_setWidth, BitVec.toNat_signExtend]
    split <;> split <;> omega
  rw [← e]
  exact Nat.and_two_pow_sub_one_eq_mod _ 8
theorem pair_says {c : Int32} (h0 : ¬ c < 0) (h1 : ¬ 65535 < c) : pairCh (lo8 c) (hi8 c) = c := by
  rw [Int32.lt_iff_toInt_lt] at h0 h1
  have e0 : (0 : Int32).toInt = 0 := rfl
  have e1 : (65535 : Int32).toInt = 65535 := rfl
  have hc : c.toInt = c.toBitVec.toNat := by
    have := c.toBitVec.isLt
    have e : c.toInt = c.toBitVec.toInt := rfl
    rw [e] at h0 h1
    rw [e]
    rw [BitVec.toInt_eq_toNat_cond] at h0 h1 ⊢
    split at h0 <;> split <;> omega
  have hn : c.toBitVec.toNat < 65536 := by omega
  have a1 := lo8_and c
  have a2 : (hi8 c &&& 255).toBitVec.toNat = c.toBitVec.toNat / 256 := by
    rw [hi8, lo8_and]
    have e : ((8 : Int32) &&& 31) = 8 := by decide
    rw [e, Int32.toBitVec_shiftRight]
    have e2 : ((8 : Int32).toBitVec.smod 32) = 8#32 := by decide
    rw [e2, BitVec.sshiftRight_eq', BitVec.toNat_sshiftRight_of_msb_false (by rw [BitVec.msb_eq_false_iff_two_mul_lt]; omega)]
    show c.toBitVec.toNat >>> 8 % 256 = _
    rw [Nat.shiftRight_eq_div_pow]
    omega
  unfold pairCh
  apply Int32.toBitVec_inj.mp
  apply BitVec.eq_of_toNat_eq
  have f0 : ((0 : Int32) &&& 31) = 0 := by decide
  have f8 : ((8 : Int32) &&& 31) = 8 := by decide
  rw [f0, f8]
  have g : (((lo8 c &&& 255) <<< (0 : Int32)) ||| ((hi8 c &&& 255) <<< (8 : Int32))).toBitVec.toNat = c.toBitVec.toNat := by
    rw [Int32.toBitVec_or, Int32.toBitVec_shiftLeft, Int32.toBitVec_shiftLeft]
    have s0 : ((0 : Int32).toBitVec.smod 32) = 0#32 := by decide
    have s8 : ((8 : Int32).toBitVec.smod 32) = 8#32 := by decide
    rw [s0, s8, BitVec.toNat_or]
    simp only [BitVec.shiftLeft_eq', BitVec.toNat_shiftLeft, a1, a2]
    show (c.toBitVec.toNat % 256) <<< 0 % 2 ^ 32 ||| (c.toBitVec.toNat / 256) <<< 8 % 2 ^ 32 = _
    rw [Nat.shiftLeft_zero, Nat.mod_eq_of_lt (show c.toBitVec.toNat % 256 < 2 ^ 32 by omega), Nat.mod_eq_of_lt (show (c.toBitVec.toNat / 256) <<< 8 < 2 ^ 32 by rw [Nat.shiftLeft_eq]; omega), Nat.or_comm, ← Nat.shiftLeft_add_eq_or_of_lt (by omega), Nat.shiftLeft_eq]
    omega
  show BitVec.toNat (((((lo8 c &&& 255) <<< (0 : Int32)) ||| ((hi8 c &&& 255) <<< (8 : Int32))).toBitVec.setWidth 16).setWidth 32) = _
  rw [BitVec.toNat_setWidth, BitVec.toNat_setWidth, g]
  omega
end StrChars
namespace StrChars
open Jvm Sem ClassFile Op Lib Jvm.Stand Jvm.Free.XT Jvm.Free.ALB Jvm.Free.JM Jvm.Free
open Jvm.Lib.Cold (StaticIs)
/-- the array's cell V codes the n chars f 0 .. f (n - 1) by the coder cd, as the JDK does: coder 1 just where some char is above 255 -/
def Cod (cd : Int32) (n : Nat) (f : Nat → Int32) (V : Cell) : Prop := (cd = 0 ∧ V.slots.size = n ∧ ∀ j, j < n → V.slots[j]? = some (.int (lo8 (f j))) ∧ ¬ 255 < f j) ∨ (cd = 1 ∧ V.slots.size = 2 * n ∧ (∀ j, j < n → V.slots[2 * j]? = some (.int (lo8 (f j))) ∧ V.slots[2 * j + 1]? = some (.int (hi8 (f j)))) ∧ ∃ j, j < n ∧ 255 < f j)
/-- **x is a String of the n chars f 0 .. f (n - 1)**, Latin-1 or UTF-16; its array at t has the cell V -/
def Txt (x t : Addr) (V : Cell) (cd : Int32) (n : Nat) (f : Nat → Int32) (U : State) : Prop := Exact "java/lang/String" x U ∧ Has x "java/lang/String" "value" "[B" (.ref t) U ∧ Has x "java/lang/String" "coder" "B" (.int cd) U ∧ XT.Arr .byte t V U ∧ Cod cd n f V ∧ ∀ j, j < n → ¬ f j < 0 ∧ ¬ 65535 < f j
theorem Txt.mv {x t : Addr} {V : Cell} {cd : Int32} {n : Nat} {f : Nat → Int32} {U U' : State} (h : Txt x t V cd n f U) (hal : U.vm.Alike U'.vm) (hh : U'.heap = U.heap) : Txt x t V cd n f U' := ⟨h.1.mv hal hh, h.2.1.mv hal hh, h.2.2.1.mv hal hh, h.2.2.2.1.mv hal hh, h.2.2.2.2⟩
end StrChars
namespace StrChars.Road
open Jvm Sem ClassFile Op Lib Jvm.Stand Jvm.Free Jvm.Free.XT
open Jvm.Lib.Cold (StaticIs)
theorem consq {a : Array Value} {s : State} {c : Jvm.Cond} {L : List Jvm.Cond} (h0 : c.before a s = true) (h : ∀ w ∈ L, w.before a s = true) : ∀ w ∈ c :: L, w.before a s = true := fun w hw => (List.mem_cons.mp hw).elim (fun e => e ▸ h0) (h w)
/-- the bytes of the chars cs, low before high -/
def wideBytes : List Int32 → List Value
  | [] => []
  | c :: cs => .int (lo8 c) :: .int (hi8 c) :: wideBytes cs
theorem wide_lo (d : Value) : ∀ (cs : List Int32) (j : Nat), j < cs.length → (wideBytes cs).getD (2 * j) d = .int (lo8 (cs.getD j 0))
  | [], j, h => absurd h (Nat.not_lt_zero j)
  | c :: cs, 0, _ => rfl
  | c :: cs, j + 1, h => by
    have q := wide_lo d cs j (by simpa using h)
    rw [show 2 * (j + 1) = 2 * j + 1 + 1 from by omega]
    simpa [wideBytes] using q
theorem wide_hi (d : Value) : ∀ (cs : List Int32) (j : Nat), j < cs.length → (wideBytes cs).getD (2 * j + 1) d = .int (hi8 (cs.getD j 0))
  | [], j, h => absurd h (Nat.not_lt_zero j)
  | c :: cs, 0, _ => rfl
  | c :: cs, j + 1, h => by
    have q := wide_hi d cs j (by simpa using h)
    rw [show 2 * (j + 1) + 1 = 2 * j + 1 + 1 + 1 from by omega]
    simpa [wideBytes] using q
theorem low_at (d : Value) (cs : List Int32) (j : Nat) (h : j < cs.length) : (cs.map fun c => Value.int (lo8 c)).getD j d = .int (lo8 (cs.getD j 0)) := by
  simp [List.getD_eq_getElem?_getD, h]
/-- an array of N2 bytes vs codes the chars cs by the coder cd -/
def CodA (cs : List Int32) (cd N2 : Int32) (vs : List Value) : Prop := (cd = 0 ∧ N2 = Int32.ofNat cs.length ∧ vs = (cs.map fun c => Value.int (lo8 c)) ∧ ∀ c ∈ cs, ¬ 255 < c) ∨ (cd = 1 ∧ N2 = Int32.ofNat (2 * cs.length) ∧ vs = wideBytes cs ∧ ∃ c ∈ cs, 255 < c)
theorem CodA.cod {cs : List Int32} {cd N2 : Int32} {vs : List Value} {V : Cell} (h : CodA cs cd N2 vs) (hn : 2 * cs.length < 2 ^ 31) (hs : V.slots.size = N2.toNatClampNeg) (hv : RoadKit.Has V vs (.int 0)) : Cod cd cs.length (fun j => cs.getD j 0) V := by
  rcases h with ⟨rfl, rfl, rfl, h⟩ | ⟨rfl, rfl, rfl, c, hc, hw⟩
  · rw [n32 (by omega)] at hs
    exact Or.inl ⟨rfl, hs, fun j hj => ⟨by rw [hv j (by omega), low_at _ _ _ hj], by
      have e : cs.getD j 0 = cs[j] := by simp [List.getD_eq_getElem?_getD, hj]
      show ¬ 255 < cs.getD j 0
      rw [e]; exact h _ (List.getElem_mem _)⟩⟩
  · rw [n32 (by omega)] at hs
    obtain ⟨j, hj, rfl⟩ := List.getElem_of_mem hc
    exact Or.inr ⟨rfl, hs, fun j hj => ⟨by rw [hv _ (by omega), wide_lo _ _ _ hj], by rw [hv _ (by omega), wide_hi _ _ _ hj]⟩, j, hj, by
      have e : cs.getD j 0 = cs[j] := by simp [List.getD_eq_getElem?_getD, hj]
      show 255 < cs.getD j 0
      rw [e]; exact hw⟩
/-- an object of exactly java/lang/String, its two fields found: as the laws ask it -/
theorem strObj {Z U : State} {a0 : Array Value} {kI : Nat} (wi : (Jvm.Cond.instantiable ST kI).before a0 Z = true) (al : Z.vm.Alike U.vm) {x : Addr} {v0 c0 : Value} (E : RoadKit.Exa Z U.heap x ST) (V : RoadKit.Fld Z U.heap x ST "value" "[B" v0) (C : RoadKit.Fld Z U.heap x ST "coder" "B" c0) :
    ∃ (D : Cell) (fV fC : Field), Blank ST x D U ∧ Found ST "value" "[B" fV U ∧ Found ST "coder" "B" fC U ∧ D.slots[fV.slot]? = some v0 ∧ D.slots[fC.slot]? = some c0 ∧ RoadKit.slotOf Z ST "value" "[B" = fV.slot ∧ RoadKit.slotOf Z ST "coder" "B" = fC.slot := by
  obtain ⟨D, cfV, kV, iV, fV, hD, gV, stV, knV, obV, asV, slV⟩ := V
  obtain ⟨D', cfC, kC, iC, fC, hD', gC, stC, -, -, asC, slC⟩ := C
  cases hD.symm.trans hD'
  obtain ⟨D2, kD, e1, e2, e3, e4, e5⟩ := E
  cases hD.symm.trans e1
  obtain ⟨c2, k2, i1, i2, i3, -⟩ := Cond.instantiable_spec wi
  cases e2.symm.trans i1
  cases e3.symm.trans i2
  obtain ⟨kU, u1, u2⟩ := al.2.2 _ _ e3
  exact ⟨D, fV, fC, ⟨hD, ⟨knV, fun q hq => by rw [hq] at obV; cases obV⟩, by rw [al.findClass]; exact e2, kU, u1, by rw [u2]; exact i3, by rw [u2]; exact e5 i3⟩, ⟨SBG.found_only al ⟨cfV, kV, iV, gV⟩, stV⟩, ⟨SBG.found_only al ⟨cfC, kC, iC, gC⟩, stC⟩, slV, slC, by simp [RoadKit.slotOf, gV], by simp [RoadKit.slotOf, gC]⟩
theorem sta_is {Z U : State} (al : Z.vm.Alike U.vm) {C n d : String} {v : Value} (S : RoadKit.Sta Z U.heap C n d v) : StaticIs U C n d v := by
  obtain ⟨cfS, iS, kS, fS, st, cS, t1, t2, t3, t4, t5, t6, t7⟩ := S
  exact StaticIs.there (s := { Z with heap := U.heap }) ⟨cfS, iS, kS, fS, st, cS, t1, t2, t3, t4, t5, (fun q => by rw [q] at t6; cases t6), t7⟩ al rfl
end StrChars.Road
namespace StrChars
open Jvm Sem ClassFile Op Lib Jvm.Stand Jvm.Free.XT Jvm.Free.ALB Jvm.Free.JM Jvm.Free
open Jvm.Lib.Cold (StaticIs)
/-- what place i of a byte[]'s cell holds -/
def yv (A : Cell) (i : Nat) : Int32 := match A.slots[i]? with | some (.int x) => x | _ => 0
theorem yv_get {a : Addr} {A : Cell} {U : State} (h : XT.Arr .byte a A U) (ht : Typed .byte A) {i : Nat} (hi : i < A.slots.size) : A.slots[i]? = some (.int (yv A i)) := by
  have e := Array.getElem?_eq_getElem hi
  have f := ht i _ e
  unfold yv; rw [e]
  generalize A.slots[i] = v at f
  cases v <;> simp [fits] at f ⊢
/-- the two arrays are equal, place for place -/
def EqC (A B : Cell) : Prop := A.slots.size = B.slots.size ∧ ∀ i, i < A.slots.size → yv A i = yv B i
/-- a boolean that says whether p -/
def Says01 (q : Prop) (r : Option Value) (s u : State) : Prop := ∃ v : Int32, r = some (.int v) ∧ u.heap = s.heap ∧ ((v = 1 ∧ q) ∨ (v = 0 ∧ ¬ q))
theorem Says01.mv {q : Prop} : ∀ r (U U' V V' : State), U'.heap = U.heap → V.vm.Alike V'.vm → V'.heap = V.heap → Says01 q r U V → Says01 q r U' V' :=
  fun r U U' V V' h1 _ h2 ⟨v, a, b, c⟩ => ⟨v, a, by rw [h1, h2]; exact b, c⟩
namespace LEq
def yN : MethodName := ⟨"java/lang/StringLatin1", "equals", "([B[B)Z"⟩
abbrev yB : ByteArray := jdk_43_method_13_code
theorem d0 : decode yB 0 = .ok (.aload_n 0, 1) := by decide +kernel
theorem d1 : decode yB 1 = .ok (.arraylength, 1) := by decide +kernel
theorem d2 : decode yB 2 = .ok (.aload_n 1, 1) := by decide +kernel
theorem d3 : decode yB 3 = .ok (.arraylength, 1) := by decide +kernel
theorem d4 : decode yB 4 = .ok (.if_icmp (.ne) 30, 3) := by decide +kernel
theorem d7 : decode yB 7 = .ok (.iconst 0, 1) := by decide +kernel
theorem d8 : decode yB 8 = .ok (.istore_n 2, 1) := by decide +kernel
theorem d9 : decode yB 9 = .ok (.iload_n 2, 1) := by decide +kernel
theorem d10 : decode yB 10 = .ok (.aload_n 0, 1) := by decide +kernel
theorem d11 : decode yB 11 = .ok (.arraylength, 1) := by decide +kernel
theorem d12 : decode yB 12 = .ok (.if_icmp (.ge) 20, 3) := by decide +kernel
theorem d15 : decode yB 15 = .ok (.aload_n 0, 1) := by decide +kernel
theorem d16 : decode yB 16 = .ok (.iload_n 2, 1) := by decide +kernel
theorem d17 : decode yB 17 = .ok (.baload, 1) := by decide +kernel
theorem d18 : decode yB 18 = .ok (.aload_n 1, 1) := by decide +kernel
theorem d19 : decode yB 19 = .ok (.iload_n 2, 1) := by decide +kernel
theorem d20 : decode yB 20 = .ok (.baload, 1) := by decide +kernel
theorem d21 : decode yB 21 = .ok (.if_icmp (.eq) 5, 3) := by decide +kernel
theorem d24 : decode yB 24 = .ok (.iconst 0, 1) := by decide +kernel
theorem d25 : decode yB 25 = .ok (.ireturn, 1) := by decide +kernel
theorem d26 : decode yB 26 = .ok (.iinc 2 1, 3) := by decide +kernel
theorem d29 : decode yB 29 = .ok (.goto (-20), 3) := by decide +kernel
theorem d32 : decode yB 32 = .ok (.iconst 1, 1) := by decide +kernel
theorem d33 : decode yB 33 = .ok (.ireturn, 1) := by decide +kernel
theorem d34 : decode yB 34 = .ok (.iconst 0, 1) := by decide +kernel
theorem d35 : decode yB 35 = .ok (.ireturn, 1) := by decide +kernel
def site : List Cond := []
def tab : Cond := tabOf yN yB 3 (some .boolean) site
def P (a : Addr) (A : Cell) (b : Addr) (B : Cell) (args : Array Value) (s : State) : Prop := args = #[.ref a, .ref b] ∧ XT.Arr .byte a A s ∧ Typed .byte A ∧ XT.Arr .byte b B s ∧ Typed .byte B
/-- whether two byte[] are equal, place for place -/
theorem law (l : Launch) (a : Addr) (A : Cell) (b : Addr) (B : Cell) : Law l yN 2 2 0 0 yB 3 (some .boolean) site (P a A b B) (Says01 (EqC A B)) [] 0 0 := by
  refine Law.of_walk (plainFor_of_name (by decide +kernel)) (by decide +kernel) (by decide +kernel) (by decide) (fun _ _ h => by rw [h.1]; rfl) (fun _ U U' hal hh h => ⟨h.1, h.2.1.mv hal hh, h.2.2.1, h.2.2.2.1.mv hal hh, h.2.2.2.2⟩) (fun r U U' V V' h1 hal h2 h => Says01.mv r U U' V V' h1 hal h2 h) ?_
  intro p e s m args below meth c s₁ X0 hexec hbytes hml hret hlk hnm hown hh0 W hP
  obtain ⟨rfl, hA, tA, hB, tB⟩ := hP
  have a31 := hA.2.2.2
  have b31 := hB.2.2.2
  have hA0 := hA.mv X0.warmed.alike hh0
  have hB0 := hB.mv X0.warmed.alike hh0
  have c1 : Steps p.tables e below (s₁.setTop (entryFrame m #[.ref a, .ref b] 3)) (s₁.setTop (mkF m 0 #[.val (.ref a), .val (.ref b), .unset] [])) := entry rfl
  have c2 : Steps p.tables e below (s₁.setTop (entryFrame m #[.ref a, .ref b] 3)) (s₁.setTop (mkF m 4 #[.val (.ref a), .val (.ref b), .unset] [.int (Int32.ofNat B.slots.size), .int (Int32.ofNat A.slots.size)])) := c1.trans (by
    refine XS.aloadN X0.here hexec rfl (hb hbytes d0) rfl rfl ?_
    refine X0.alen hexec hA0 rfl rfl (hb hbytes d1) ?_
    refine XS.aloadN X0.here hexec rfl (hb hbytes d2) rfl rfl ?_
    refine X0.alen hexec hB0 rfl rfl (hb hbytes d3) ?_
    exact Steps.refl _)
  by_cases hs : A.slots.size = B.slots.size
  · have c3 : Steps p.tables e below (s₁.setTop (entryFrame m #[.ref a, .ref b] 3)) (s₁.setTop (mkF m 9 #[.val (.ref a), .val (.ref b), .val (.int 0)] [])) := c2.trans (by
      refine XS.icmpNo X0.here hexec rfl (hb hbytes d4) rfl (ii_ne_f (by rw [hs])) ?_
      refine iconstV X0.here hexec rfl 0 (hb hbytes d7) (by decide) ?_
      refine XS.istoreN X0.here hexec rfl (hb hbytes d8) rfl rfl ?_
      exact Steps.refl _)
    have loop : ∀ (r i : Nat), i + r = A.slots.size → (∀ j, j < i → yv A j = yv B j) → Steps p.tables e below (s₁.setTop (entryFrame m #[.ref a, .ref b] 3)) (s₁.setTop (mkF m 9 #[.val (.ref a), .val (.ref b), .val (.int (Int32.ofNat i))] [])) → ∃ (pc : Nat) (Ls : Array Slot) (v : Int32), (pc = 25 ∨ pc = 33) ∧ ((v = 1 ∧ EqC A B) ∨ (v = 0 ∧ ¬ EqC A B)) ∧ Steps p.tables e below (s₁.setTop (entryFrame m #[.ref a, .ref b] 3)) (s₁.setTop (mkF m pc Ls [.int v])) := by
      intro r
      induction r with
      | zero =>
        intro i hi he cl
        exact ⟨33, _, 1, Or.inr rfl, Or.inl ⟨rfl, hs, fun j hj => he j (by omega)⟩, cl.trans (by
          refine XS.iloadN X0.here hexec rfl (hb hbytes d9) rfl ?_
          refine XS.aloadN X0.here hexec rfl (hb hbytes d10) rfl rfl ?_
          refine X0.alen hexec hA0 rfl rfl (hb hbytes d11) ?_
          refine XS.icmpYes X0.here hexec rfl (pc0 := 12) rfl (hb hbytes d12) rfl (ii_ge_t (nlt32 (by omega) (by omega))) (by decide) rfl ?_
          refine iconstV X0.here hexec rfl 1 (hb hbytes d32) (by decide) ?_
          exact Steps.refl _)⟩
      | succ r ih =>
        intro i hi he cl
        have c4 : Steps p.tables e below (s₁.setTop (entryFrame m #[.ref a, .ref b] 3)) (s₁.setTop (mkF m 21 #[.val (.ref a), .val (.ref b), .val (.int (Int32.ofNat i))] [.int (yv B i), .int (yv A i)])) := cl.trans (by
          refine XS.iloadN X0.here hexec rfl (hb hbytes d9) rfl ?_
          refine XS.aloadN X0.here hexec rfl (hb hbytes d10) rfl rfl ?_
          refine X0.alen hexec hA0 rfl rfl (hb hbytes d11) ?_
          refine XS.icmpNo X0.here hexec rfl (hb hbytes d12) rfl (ii_ge_f (lt32 (by omega) (by omega))) ?_
          refine XS.aloadN X0.here hexec rfl (hb hbytes d15) rfl rfl ?_
          refine XS.iloadN X0.here hexec rfl (hb hbytes d16) rfl ?_
          refine X0.aget hexec hA0 rfl (yv_get hA tA (i := i) (by omega)) rfl rfl (hb hbytes d17) ?_
          refine XS.aloadN X0.here hexec rfl (hb hbytes d18) rfl rfl ?_
          refine XS.iloadN X0.here hexec rfl (hb hbytes d19) rfl ?_
          refine X0.aget hexec hB0 rfl (yv_get hB tB (i := i) (by omega)) rfl rfl (hb hbytes d20) ?_
          exact Steps.refl _)
        by_cases hv : yv A i = yv B i
        · have c5 : Steps p.tables e below (s₁.setTop (entryFrame m #[.ref a, .ref b] 3)) (s₁.setTop (mkF m 9 #[.val (.ref a), .val (.ref b), .val (.int (Int32.ofNat i + 1))] [])) := c4.trans (by
            refine XS.icmpYes X0.here hexec rfl (pc0 := 21) rfl (hb hbytes d21) rfl (ii_eq_t hv) (by decide) rfl ?_
            refine iincV X0.here hexec rfl 1 (hb hbytes d26) (by decide) rfl rfl ?_
            refine XS.goto X0.here hexec rfl (pc0 := 29) rfl (hb hbytes d29) (by decide) rfl ?_
            exact Steps.refl _)
          rw [succ32] at c5
          exact ih (i + 1) (by omega) (fun j hj => by
            by_cases e : j = i
            · rw [e]; exact hv
            · exact he j (by omega)) c5
        · exact ⟨25, _, 0, Or.inl rfl, Or.inr ⟨rfl, fun q => hv (q.2 i (by omega))⟩, c4.trans (by
            refine XS.icmpNo X0.here hexec rfl (hb hbytes d21) rfl (ii_eq_f hv) ?_
            refine iconstV X0.here hexec rfl 0 (hb hbytes d24) (by decide) ?_
            exact Steps.refl _)⟩
    obtain ⟨pc, Ls, v, hpc, hv, cz⟩ := loop A.slots.size 0 (by omega) (fun j hj => absurd hj (Nat.not_lt_zero j)) c3
    have nv : narrow .boolean (.int v) = .int v := by rcases hv with ⟨rfl, -⟩ | ⟨rfl, -⟩ <;> rfl
    rcases hpc with rfl | rfl
    · exact ⟨s₁, some (.int v), _, _, _, X0, rfl, rfl, rfl, (fun h => by cases h), ⟨v, rfl, hh0, hv⟩, fun fs hl => cz.trans (X0.ireturnOut hexec hret nv (Or.inr (Or.inl rfl)) (hb hbytes d25) hl)⟩
    · exact ⟨s₁, some (.int v), _, _, _, X0, rfl, rfl, rfl, (fun h => by cases h), ⟨v, rfl, hh0, hv⟩, fun fs hl => cz.trans (X0.ireturnOut hexec hret nv (Or.inr (Or.inl rfl)) (hb hbytes d33) hl)⟩
  · have c3 : Steps p.tables e below (s₁.setTop (entryFrame m #[.ref a, .ref b] 3)) (s₁.setTop (mkF m 35 #[.val (.ref a), .val (.ref b), .unset] [.int 0])) := c2.trans (by
      refine XS.icmpYes X0.here hexec rfl (pc0 := 4) rfl (hb hbytes d4) rfl (ii_ne_t (ne32 a31 b31 hs)) (by decide) rfl ?_
      refine iconstV X0.here hexec rfl 0 (hb hbytes d34) (by decide) ?_
      exact Steps.refl _)
    exact ⟨s₁, some (.int 0), _, _, _, X0, rfl, rfl, rfl, (fun h => by cases h), ⟨0, rfl, hh0, Or.inr ⟨rfl, fun q => hs q.1⟩⟩, fun fs hl => c3.trans (X0.ireturnOut hexec hret rfl (Or.inr (Or.inl rfl)) (hb hbytes d35) hl)⟩
end LEq
theorem Cod.ty {cd : Int32} {n : Nat} {f : Nat → Int32} {V : Cell} (h : Cod cd n f V) : Typed .byte V := fun i v hv => by
  have hi : i < V.slots.size := (Array.getElem?_eq_some_iff.mp hv).1
  rcases h with ⟨-, k1, k2⟩ | ⟨-, k1, k2, -⟩
  · rw [(k2 i (by omega)).1] at hv; cases hv; exact fits_lo8 _
  · rcases Nat.mod_two_eq_zero_or_one i with e | e
    · obtain ⟨j, rfl⟩ : ∃ j, i = 2 * j := ⟨i / 2, by omega⟩
      rw [(k2 j (by omega)).1] at hv; cases hv; exact fits_lo8 _
    · obtain ⟨j, rfl⟩ : ∃ j, i = 2 * j + 1 := ⟨i / 2, by omega⟩
      rw [(k2 j (by omega)).2] at hv; cases hv; exact fits_lo8 _
/-- the same text -/
def SameT (n : Nat) (f : Nat → Int32) (k : Nat) (g : Nat → Int32) : Prop := n = k ∧ ∀ j, j < n → f j = g j
theorem lo8_inj {x y : Int32} (h0 : ¬ x < 0) (h1 : ¬ 255 < x) (k0 : ¬ y < 0) (k1 : ¬ 255 < y) (h : lo8 x = lo8 y) : x = y := by
  rw [← lo8_mask h0 h1, ← lo8_mask k0 k1, h]
/-- arrays coded by one coder are equal just where the texts are -/
theorem Cod.eqv {cd : Int32} {n k : Nat} {f g : Nat → Int32} {V V' : Cell} (h : Cod cd n f V) (h' : Cod cd k g V') (hf : ∀ j, j < n → ¬ f j < 0 ∧ ¬ 65535 < f j) (hg : ∀ j, j < k → ¬ g j < 0 ∧ ¬ 65535 < g j) : EqC V V' ↔ SameT n f k g := by
  have yvv : ∀ {W : Cell} {i : Nat} {x : Int32}, W.slots[i]? = some (.int x) → yv W i = x := fun q => by unfold yv; rw [q]
  rcases h with ⟨rfl, k1, k2⟩ | ⟨rfl, k1, k2, -⟩
  · rcases h' with ⟨-, m1, m2⟩ | ⟨e, -⟩
    · constructor
      · rintro ⟨e1, e2⟩
        refine ⟨by omega, fun j hj => ?_⟩
        have q := e2 j (by omega)
        rw [yvv (k2 j hj).1, yvv (m2 j (by omega)).1] at q
        exact lo8_inj (hf j hj).1 (k2 j hj).2 (hg j (by omega)).1 (m2 j (by omega)).2 q
      · rintro ⟨rfl, e2⟩
        refine ⟨by omega, fun j hj => ?_⟩
        rw [yvv (k2 j (by omega)).1, yvv (m2 j (by omega)).1, e2 j (by omega)]
    · exact absurd e (by decide)
  · rcases h' with ⟨e, -⟩ | ⟨-, m1, m2, -⟩
    · exact absurd e (by decide)
    · constructor
      · rintro ⟨e1, e2⟩
        refine ⟨by omega, fun j hj => ?_⟩
        have q1 := e2 (2 * j) (by omega)
        have q2 := e2 (2 * j + 1) (by omega)
        rw [yvv (k2 j hj).1, yvv (m2 j (by omega)).1] at q1
        rw [yvv (k2 j hj).2, yvv (m2 j (by omega)).2] at q2
        rw [← pair_says (hf j hj).1 (hf j hj).2, ← pair_says (hg j (by omega)).1 (hg j (by omega)).2, q1, q2]
      · rintro ⟨rfl, e2⟩
        refine ⟨by omega, fun i hi => ?_⟩
        rcases Nat.mod_two_eq_zero_or_one i with e | e
        · obtain ⟨j, rfl⟩ : ∃ j, i = 2 * j := ⟨i / 2, by omega⟩
          rw [yvv (k2 j (by omega)).1, yvv (m2 j (by omega)).1, e2 j (by omega)]
        · obtain ⟨j, rfl⟩ : ∃ j, i = 2 * j + 1 := ⟨i / 2, by omega⟩
          rw [yvv (k2 j (by omega)).2, yvv (m2 j (by omega)).2, e2 j (by omega)]
/-- two codings differ: so do the texts -/
theorem Cod.dif {cd cd' : Int32} {n k : Nat} {f g : Nat → Int32} {V V' : Cell} (h : Cod cd n f V) (h' : Cod cd' k g V') (hne : ¬ cd = cd') : ¬ SameT n f k g := by
  rintro ⟨rfl, e⟩
  rcases h with ⟨rfl, -, k2⟩ | ⟨rfl, -, -, j, hj, hw⟩
  · rcases h' with ⟨rfl, -⟩ | ⟨-, -, -, j, hj, hw⟩
    · exact hne rfl
    · exact (k2 j hj).2 (by rw [e j hj]; exact hw)
  · rcases h' with ⟨-, -, m2⟩ | ⟨rfl, -⟩
    · exact (m2 j hj).2 (by rw [← e j hj]; exact hw)
    · exact hne rfl
/-- an object of exactly C is an instance of C -/
theorem cinst {p : Program} {l : Launch} {e : Env} {R : Room} {s : State} {m : MethodId} {args : Array Value} {below : List Frame} {meth : Method} {c : Code} {T : State} {locs : List Loc} {cells slots : Nat} (X : Stand p l e R s m args below meth c T locs cells slots) (hexec : p.tables.exec = Jvm.exec) {own C : String} {index : Nat} (hown : s.vm.findClass own = some m.cls) (hlink : (Cond.classLink own index C).before args s = true) {a : Addr} (hE : Exact C a T)
    {g : JFrame} (hg : g.method = m) {rest : List Value} (hstack : g.stack = .ref a :: rest) (hdg : decode c.code g.pc = .ok (.instanceof index, 3)) :
    ∃ T', Stand p l e R s m args below meth c T' locs cells slots ∧ T'.heap = T.heap ∧ ∀ target, Steps p.tables e below (T'.setTop { g with pc := g.pc + 3, stack := .int 1 :: rest }) target → Steps p.tables e below (T.setTop g) target := by
  obtain ⟨cB, h1, D, h2, h3, h4⟩ := hE
  have h1' : s.vm.findClass C = some cB := by rw [← X.warmed.alike.findClass]; exact h1
  obtain ⟨vm', X', st⟩ := X.instanceofYes hexec hown hlink h2 h4 h1' (by rw [h3]; exact Jvm.Free.SB.assignable_self _ _) hg hstack hdg
  exact ⟨_, X', rfl, st⟩
theorem cself {p : Program} {l : Launch} {e : Env} {R : Room} {s : State} {m : MethodId} {args : Array Value} {below : List Frame} {meth : Method} {c : Code} {T : State} {locs : List Loc} {cells slots : Nat} (X : Stand p l e R s m args below meth c T locs cells slots) (hexec : p.tables.exec = Jvm.exec) {own C : String} {index : Nat} (hown : s.vm.findClass own = some m.cls) (hlink : (Cond.classLink own index C).before args s = true) {a : Addr} (hE : Exact C a T)
    {g : JFrame} (hg : g.method = m) {rest : List Value} (hstack : g.stack = .ref a :: rest) (hdg : decode c.code g.pc = .ok (.checkcast index, 3)) :
    ∃ T', Stand p l e R s m args below meth c T' locs cells slots ∧ T'.heap = T.heap ∧ ∀ target, Steps p.tables e below (T'.setTop { g with pc := g.pc + 3, stack := .ref a :: rest }) target → Steps p.tables e below (T.setTop g) target := by
  obtain ⟨cB, h1, D, h2, h3, h4⟩ := hE
  have h1' : s.vm.findClass C = some cB := by rw [← X.warmed.alike.findClass]; exact h1
  obtain ⟨vm', X', st⟩ := X.checkcastYes hexec hown hlink h2 h4 h1' (by rw [h3]; exact Jvm.Free.SB.assignable_self _ _) hg hstack hdg
  exact ⟨_, X', rfl, fun t h => st t (by rw [← hstack] at h; exact h)⟩
namespace SEq
def yN : MethodName := ⟨"java/lang/String", "equals", "(Ljava/lang/Object;)Z"⟩
abbrev yB : ByteArray := jdk_42_method_66_code
theorem d0 : decode yB 0 = .ok (.aload_n 0, 1) := by decide +kernel
theorem d1 : decode yB 1 = .ok (.aload_n 1, 1) := by decide +kernel
theorem d2 : decode yB 2 = .ok (.if_acmp (.ne) 5, 3) := by decide +kernel
theorem d5 : decode yB 5 = .ok (.iconst 1, 1) := by decide +kernel
theorem d6 : decode yB 6 = .ok (.ireturn, 1) := by decide +kernel
theorem d7 : decode yB 7 = .ok (.aload_n 1, 1) := by decide +kernel
theorem d8 : decode yB 8 = .ok (.instanceof 10, 3) := by decide +kernel
theorem d11 : decode yB 11 = .ok (.ifCond (.eq) 43, 3) := by decide +kernel
theorem d14 : decode yB 14 = .ok (.aload_n 1, 1) := by decide +kernel
theorem d15 : decode yB 15 = .ok (.checkcast 10, 3) := by decide +kernel
theorem d18 : decode yB 18 = .ok (.astore_n 2, 1) := by decide +kernel
theorem d19 : decode yB 19 = .ok (.getstatic 38, 3) := by decide +kernel
theorem d22 : decode yB 22 = .ok (.ifCond (.eq) 14, 3) := by decide +kernel
theorem d25 : decode yB 25 = .ok (.aload_n 0, 1) := by decide +kernel
theorem d26 : decode yB 26 = .ok (.getfield 15, 3) := by decide +kernel
theorem d29 : decode yB 29 = .ok (.aload_n 2, 1) := by decide +kernel
theorem d30 : decode yB 30 = .ok (.getfield 15, 3) := by decide +kernel
theorem d33 : decode yB 33 = .ok (.if_icmp (.ne) 21, 3) := by decide +kernel
theorem d36 : decode yB 36 = .ok (.aload_n 0, 1) := by decide +kernel
theorem d37 : decode yB 37 = .ok (.getfield 9, 3) := by decide +kernel
theorem d40 : decode yB 40 = .ok (.aload_n 2, 1) := by decide +kernel
theorem d41 : decode yB 41 = .ok (.getfield 9, 3) := by decide +kernel
theorem d44 : decode yB 44 = .ok (.invokestatic 541, 3) := by decide +kernel
theorem d47 : decode yB 47 = .ok (.ifCond (.eq) 7, 3) := by decide +kernel
theorem d50 : decode yB 50 = .ok (.iconst 1, 1) := by decide +kernel
theorem d51 : decode yB 51 = .ok (.goto 4, 3) := by decide +kernel
theorem d54 : decode yB 54 = .ok (.iconst 0, 1) := by decide +kernel
theorem d55 : decode yB 55 = .ok (.ireturn, 1) := by decide +kernel
def site : List Cond := [.classLink "java/lang/String" 10 "java/lang/String", .fieldLink "java/lang/String" 38 "java/lang/String" "COMPACT_STRINGS" "Z", .fieldLink "java/lang/String" 15 "java/lang/String" "coder" "B", .fieldLink "java/lang/String" 9 "java/lang/String" "value" "[B", LEq.tab] ++ staticW "java/lang/String" 541 LEq.yN
def tab : Cond := tabOf yN yB 3 (some .boolean) site
def P (x t : Addr) (V : Cell) (cd : Int32) (n : Nat) (f : Nat → Int32) (y t' : Addr) (V' : Cell) (cd' : Int32) (k : Nat) (g : Nat → Int32) (z : Int32) (args : Array Value) (s : State) : Prop := args = #[.ref x, .ref y] ∧ Txt x t V cd n f s ∧ Txt y t' V' cd' k g s ∧ StaticIs s "java/lang/String" "COMPACT_STRINGS" "Z" (.int z) ∧ ¬ z = 0
/-- equals(Object) of two Strings: whether the texts are the same -/
theorem law (l : Launch) (x t : Addr) (V : Cell) (cd : Int32) (n : Nat) (f : Nat → Int32) (y t' : Addr) (V' : Cell) (cd' : Int32) (k : Nat) (g : Nat → Int32) (z : Int32) : Law l yN 2 1 1 14 yB 3 (some .boolean) site (P x t V cd n f y t' V' cd' k g z) (Says01 (SameT n f k g)) [] 0 0 := by
  refine Law.of_walk (plainFor_of_name (by decide +kernel)) (by decide +kernel) (by decide +kernel) (by decide) (fun _ _ h => by rw [h.1]; rfl) (fun _ U U' hal hh h => ⟨h.1, h.2.1.mv hal hh, h.2.2.1.mv hal hh, h.2.2.2.1.there hal hh, h.2.2.2.2⟩) (fun r U U' V V' h1 hal h2 h => Says01.mv r U U' V V' h1 hal h2 h) ?_
  intro p e s m args below meth c s₁ X0 hexec hbytes hml hret hlk hnm hown hh0 W hP
  obtain ⟨rfl, hx, hy, s1, hz⟩ := hP
  have c1 : Steps p.tables e below (s₁.setTop (entryFrame m #[.ref x, .ref y] 3)) (s₁.setTop (mkF m 2 #[.val (.ref x), .val (.ref y), .unset] [.ref y, .ref x])) := Steps.trans (entry rfl) (by
    show Steps p.tables e below (s₁.setTop (mkF m 0 #[.val (.ref x), .val (.ref y), .unset] [])) _
    refine XS.aloadN X0.here hexec rfl (hb hbytes d0) rfl rfl ?_
    refine XS.aloadN X0.here hexec rfl (hb hbytes d1) rfl rfl ?_
    exact Steps.refl _)
  by_cases hxy : x = y
  · have c2 : Steps p.tables e below (s₁.setTop (entryFrame m #[.ref x, .ref y] 3)) (s₁.setTop (mkF m 6 #[.val (.ref x), .val (.ref y), .unset] [.int 1])) := c1.trans (by
      refine acmpNo X0.here hexec rfl (hb hbytes d2) rfl rfl rfl (by simp [acmp, hxy]) ?_
      refine iconstV X0.here hexec rfl 1 (hb hbytes d5) (by decide) ?_
      exact Steps.refl _)
    subst hxy
    have ec : cd = cd' := by
      obtain ⟨D, fd, a1, a2, a3⟩ := hx.2.2.1
      obtain ⟨D', fd', b1, b2, b3⟩ := hy.2.2.1
      cases a1.symm.trans b1
      obtain ⟨q1, q2, q3, q4⟩ := a2.1
      obtain ⟨r1, r2, r3, r4⟩ := b2.1
      cases q4.symm.trans r4
      cases a3.symm.trans b3; rfl
    have et : t = t' := by
      obtain ⟨D, fd, a1, a2, a3⟩ := hx.2.1
      obtain ⟨D', fd', b1, b2, b3⟩ := hy.2.1
      cases a1.symm.trans b1
      obtain ⟨q1, q2, q3, q4⟩ := a2.1
      obtain ⟨r1, r2, r3, r4⟩ := b2.1
      cases q4.symm.trans r4
      cases a3.symm.trans b3; rfl
    subst ec et
    have ev : V = V' := by cases hx.2.2.2.1.1.symm.trans hy.2.2.2.1.1; rfl
    subst ev
    have hs : SameT n f k g := (Cod.eqv hx.2.2.2.2.1 hy.2.2.2.2.1 hx.2.2.2.2.2 hy.2.2.2.2.2).mp ⟨rfl, fun _ _ => rfl⟩
    exact ⟨s₁, some (.int 1), _, _, _, X0, rfl, rfl, rfl, (fun h => by cases h), ⟨1, rfl, hh0, Or.inl ⟨rfl, hs⟩⟩, fun fs hl => c2.trans (X0.ireturnOut hexec hret rfl (Or.inr (Or.inl rfl)) (hb hbytes d6) hl)⟩
  · have c2 : Steps p.tables e below (s₁.setTop (entryFrame m #[.ref x, .ref y] 3)) (s₁.setTop (mkF m 8 #[.val (.ref x), .val (.ref y), .unset] [.ref y])) := c1.trans (by
      refine acmpYes X0.here hexec rfl (pc0 := 2) rfl (hb hbytes d2) rfl rfl rfl (by simp [acmp, hxy]) (by decide) rfl ?_
      refine XS.aloadN X0.here hexec rfl (hb hbytes d7) rfl rfl ?_
      exact Steps.refl _)
    obtain ⟨T3, X3, q3, st3⟩ := cinst X0 hexec hown (wk W (.classLink "java/lang/String" 10 "java/lang/String")) (hy.mv X0.warmed.alike hh0).1 (g := (mkF m 8 #[.val (.ref x), .val (.ref y), .unset] [.ref y])) rfl (rest := []) rfl (hb hbytes d8)
    have hh3 := q3.trans hh0
    have c4 : Steps p.tables e below (s₁.setTop (entryFrame m #[.ref x, .ref y] 3)) (T3.setTop (mkF m 15 #[.val (.ref x), .val (.ref y), .unset] [.ref y])) := (c2.trans (st3 _ (Steps.refl _))).trans (by
      refine XS.ifNo X3.here hexec rfl (hb hbytes d11) rfl (i0_eq_f (by decide)) ?_
      refine XS.aloadN X3.here hexec rfl (hb hbytes d14) rfl rfl ?_
      exact Steps.refl _)
    obtain ⟨T5, X5, q5, st5⟩ := cself X3 hexec hown (wk W (.classLink "java/lang/String" 10 "java/lang/String")) (hy.mv X3.warmed.alike hh3).1 (g := (mkF m 15 #[.val (.ref x), .val (.ref y), .unset] [.ref y])) rfl (rest := []) rfl (hb hbytes d15)
    have hh5 := q5.trans hh3
    have c6 : Steps p.tables e below (s₁.setTop (entryFrame m #[.ref x, .ref y] 3)) (T5.setTop (mkF m 19 #[.val (.ref x), .val (.ref y), .val (.ref y)] [])) := (c4.trans (st5 _ (Steps.refl _))).trans (by
      refine XS.astoreN X5.here hexec rfl (hb hbytes d18) rfl rfl rfl ?_
      exact Steps.refl _)
    obtain ⟨T7, X7, q7, st7⟩ := X5.sget hexec hown (wk W (.fieldLink "java/lang/String" 38 "java/lang/String" "COMPACT_STRINGS" "Z")) s1 (fun _ _ h => by rw [hh5]; exact h) (g := (mkF m 19 #[.val (.ref x), .val (.ref y), .val (.ref y)] [])) rfl (hb hbytes d19)
    have hh7 := q7.trans hh5
    have c8 : Steps p.tables e below (s₁.setTop (entryFrame m #[.ref x, .ref y] 3)) (T7.setTop (mkF m 26 #[.val (.ref x), .val (.ref y), .val (.ref y)] [.ref x])) := (c6.trans (st7 _ (Steps.refl _))).trans (by
      refine XS.ifNo X7.here hexec rfl (hb hbytes d22) rfl (i0_eq_f hz) ?_
      refine XS.aloadN X7.here hexec rfl (hb hbytes d25) rfl rfl ?_
      exact Steps.refl _)
    obtain ⟨T9, X9, q9, st9⟩ := X7.hget hexec hown (wk W (.fieldLink "java/lang/String" 15 "java/lang/String" "coder" "B")) (hx.mv X7.warmed.alike hh7).2.2.1 (g := (mkF m 26 #[.val (.ref x), .val (.ref y), .val (.ref y)] [.ref x])) rfl (rest := []) rfl (hb hbytes d26)
    have hh9 := q9.trans hh7
    have c10 : Steps p.tables e below (s₁.setTop (entryFrame m #[.ref x, .ref y] 3)) (T9.setTop (mkF m 30 #[.val (.ref x), .val (.ref y), .val (.ref y)] [.ref y, .int cd])) := (c8.trans (st9 _ (Steps.refl _))).trans (by
      refine XS.aloadN X9.here hexec rfl (hb hbytes d29) rfl rfl ?_
      exact Steps.refl _)
    obtain ⟨T11, X11, q11, st11⟩ := X9.hget hexec hown (wk W (.fieldLink "java/lang/String" 15 "java/lang/String" "coder" "B")) (hy.mv X9.warmed.alike hh9).2.2.1 (g := (mkF m 30 #[.val (.ref x), .val (.ref y), .val (.ref y)] [.ref y, .int cd])) rfl (rest := [.int cd]) rfl (hb hbytes d30)
    have hh11 := q11.trans hh9
    have c12 : Steps p.tables e below (s₁.setTop (entryFrame m #[.ref x, .ref y] 3)) (T11.setTop (mkF m 33 #[.val (.ref x), .val (.ref y), .val (.ref y)] [.int cd', .int cd])) := c10.trans (st11 _ (Steps.refl _))
    by_cases hcd : cd = cd'
    · subst hcd
      have c13 : Steps p.tables e below (s₁.setTop (entryFrame m #[.ref x, .ref y] 3)) (T11.setTop (mkF m 37 #[.val (.ref x), .val (.ref y), .val (.ref y)] [.ref x])) := c12.trans (by
        refine XS.icmpNo X11.here hexec rfl (hb hbytes d33) rfl (ii_ne_f rfl) ?_
        refine XS.aloadN X11.here hexec rfl (hb hbytes d36) rfl rfl ?_
        exact Steps.refl _)
      obtain ⟨T14, X14, q14, st14⟩ := X11.hget hexec hown (wk W (.fieldLink "java/lang/String" 9 "java/lang/String" "value" "[B")) (hx.mv X11.warmed.alike hh11).2.1 (g := (mkF m 37 #[.val (.ref x), .val (.ref y), .val (.ref y)] [.ref x])) rfl (rest := []) rfl (hb hbytes d37)
      have hh14 := q14.trans hh11
      have c15 : Steps p.tables e below (s₁.setTop (entryFrame m #[.ref x, .ref y] 3)) (T14.setTop (mkF m 41 #[.val (.ref x), .val (.ref y), .val (.ref y)] [.ref y, .ref t])) := (c13.trans (st14 _ (Steps.refl _))).trans (by
        refine XS.aloadN X14.here hexec rfl (hb hbytes d40) rfl rfl ?_
        exact Steps.refl _)
      obtain ⟨T16, X16, q16, st16⟩ := X14.hget hexec hown (wk W (.fieldLink "java/lang/String" 9 "java/lang/String" "value" "[B")) (hy.mv X14.warmed.alike hh14).2.1 (g := (mkF m 41 #[.val (.ref x), .val (.ref y), .val (.ref y)] [.ref y, .ref t])) rfl (rest := [.ref t]) rfl (hb hbytes d41)
      have hh16 := q16.trans hh14
      have c17 : Steps p.tables e below (s₁.setTop (entryFrame m #[.ref x, .ref y] 3)) (T16.setTop (mkF m 44 #[.val (.ref x), .val (.ref y), .val (.ref y)] [.ref t', .ref t])) := c15.trans (st16 _ (Steps.refl _))
      obtain ⟨v18, T18, X18, E18, g18⟩ := X16.callS hexec (LEq.law l t V t' V') hown (wks W (staticW "java/lang/String" 541 LEq.yN)) (wk W LEq.tab) (W := 0) (Nat.le_of_ble_eq_true rfl) (Nat.le_of_ble_eq_true rfl) (Nat.le_refl _) (Nat.le_refl _) (g := (mkF m 44 #[.val (.ref x), .val (.ref y), .val (.ref y)] [.ref t', .ref t])) rfl (by rw [hml]; rfl) c17 (argsL := [.ref t, .ref t']) (rest := []) rfl rfl (by show 2 * 0 + 0 ≤ _; decide) (hb hbytes d44) (⟨rfl, hx.2.2.2.1.mv X16.warmed.alike hh16, hx.2.2.2.2.1.ty, hy.2.2.2.1.mv X16.warmed.alike hh16, hy.2.2.2.2.1.ty⟩)
      obtain ⟨v, rfl, q18, hv⟩ := E18
      have iff := Cod.eqv hx.2.2.2.2.1 hy.2.2.2.2.1 hx.2.2.2.2.2 hy.2.2.2.2.2
      rcases hv with ⟨rfl, he⟩ | ⟨rfl, he⟩
      · have c19 : Steps p.tables e below (s₁.setTop (entryFrame m #[.ref x, .ref y] 3)) (T18.setTop (mkF m 55 #[.val (.ref x), .val (.ref y), .val (.ref y)] [.int 1])) := Steps.trans g18 (by
          refine XS.ifNo X18.here hexec rfl (hb hbytes d47) rfl (i0_eq_f (by decide)) ?_
          refine iconstV X18.here hexec rfl 1 (hb hbytes d50) (by decide) ?_
          refine XS.goto X18.here hexec rfl (pc0 := 51) rfl (hb hbytes d51) (by decide) rfl ?_
          exact Steps.refl _)
        exact ⟨T18, some (.int 1), _, _, _, X18, rfl, rfl, rfl, (fun h => by cases h), ⟨1, rfl, q18.trans hh16, Or.inl ⟨rfl, iff.mp he⟩⟩, fun fs hl => c19.trans (X18.ireturnOut hexec hret rfl (Or.inr (Or.inl rfl)) (hb hbytes d55) hl)⟩
      · have c19 : Steps p.tables e below (s₁.setTop (entryFrame m #[.ref x, .ref y] 3)) (T18.setTop (mkF m 55 #[.val (.ref x), .val (.ref y), .val (.ref y)] [.int 0])) := Steps.trans g18 (by
          refine XS.ifYes X18.here hexec rfl (pc0 := 47) rfl (hb hbytes d47) rfl (i0_eq_t rfl) (by decide) rfl ?_
          refine iconstV X18.here hexec rfl 0 (hb hbytes d54) (by decide) ?_
          exact Steps.refl _)
        exact ⟨T18, some (.int 0), _, _, _, X18, rfl, rfl, rfl, (fun h => by cases h), ⟨0, rfl, q18.trans hh16, Or.inr ⟨rfl, fun q => he (iff.mpr q)⟩⟩, fun fs hl => c19.trans (X18.ireturnOut hexec hret rfl (Or.inr (Or.inl rfl)) (hb hbytes d55) hl)⟩
    · have c13 : Steps p.tables e below (s₁.setTop (entryFrame m #[.ref x, .ref y] 3)) (T11.setTop (mkF m 55 #[.val (.ref x), .val (.ref y), .val (.ref y)] [.int 0])) := c12.trans (by
        refine XS.icmpYes X11.here hexec rfl (pc0 := 33) rfl (hb hbytes d33) rfl (ii_ne_t hcd) (by decide) rfl ?_
        refine iconstV X11.here hexec rfl 0 (hb hbytes d54) (by decide) ?_
        exact Steps.refl _)
      exact ⟨T11, some (.int 0), _, _, _, X11, rfl, rfl, rfl, (fun h => by cases h), ⟨0, rfl, hh11, Or.inr ⟨rfl, Cod.dif hx.2.2.2.2.1 hy.2.2.2.2.1 hcd⟩⟩, fun fs hl => c13.trans (X11.ireturnOut hexec hret rfl (Or.inr (Or.inl rfl)) (hb hbytes d55) hl)⟩
theorem pays {l : Launch} {R : Room} {p : Program} {e : Env} {below : List Frame} {s : State} {sargs : Array Value} {len W : Nat} (x t : Addr) (V : Cell) (cd : Int32) (n : Nat) (f : Nat → Int32) (y t' : Addr) (V' : Cell) (cd' : Int32) (k : Nat) (g : Nat → Int32) (z : Int32) (htab : tab.before sargs s = true) (hfr : 2 ≤ R.frames) (hlo : W + 28 ≤ R.locals) :
    Back l R p e below s sargs yN len W (fun A₁ a₁ => A₁.cells + 0 ≤ R.cells ∧ A₁.slots + 0 ≤ R.slots ∧ P x t V cd n f y t' V' cd' k g z a₁ A₁.U) (fun A₁ _ v₁ B₁ => Says01 (SameT n f k g) v₁ A₁.U B₁.U ∧ B₁.locs = A₁.locs ++ [] ∧ B₁.cells = A₁.cells + 0 ∧ B₁.slots = A₁.slots + 0) :=
  (law l x t V cd n f y t' V' cd' k g z).pays htab hfr (by omega)
end SEq
end StrChars
namespace StrChars.Road
open Jvm Sem ClassFile Op Lib Jvm.Stand Jvm.Free Jvm.Free.XT
open Jvm.Lib.Cold (StaticIs)
/-- the words of String.equals(Object) -/
abbrev wordsEq : List Jvm.Cond := [.code SEq.yN SEq.yB 3 (some .boolean), .initialized ST, .classLink ST 10 ST, .fieldLink ST 38 ST "COMPACT_STRINGS" "Z", .fieldLink ST 15 ST "coder" "B", .fieldLink ST 9 ST "value" "[B", .methodLink ST 541 LEq.yN, .static LEq.yN, .code LEq.yN LEq.yB 3 (some .boolean), .initialized "java/lang/StringLatin1"]
theorem tabEq_of {a : Array Value} {s : State} (h : ∀ w ∈ wordsEq, w.before a s = true) : SEq.tab.before a s = true := by
  have hl : LEq.tab.before a s = true := unparts (wk h (.code LEq.yN LEq.yB 3 (some .boolean))) (wks h (.initialized LEq.yN.cls :: LEq.site))
  have q := consq hl h
  exact unparts (wk q (.code SEq.yN SEq.yB 3 (some .boolean))) (wks q (.initialized SEq.yN.cls :: SEq.site))
theorem movedEq {Z s : State} {a0 args : Array Value} (hZ : Z.Warmed39 s.vm) (hw : ∀ d ∈ wordsEq, d.before a0 Z = true) : ∀ d ∈ wordsEq, d.before args s = true := fun d hd => by
  have t : ∀ d ∈ wordsEq, (d.onTables && d.keepsFace) = true := by decide +kernel
  exact RoadKit.mv hZ (hw d hd) (t d hd)
/-- the road's facts of a String, as the laws ask it -/
theorem txt_of {Z U : State} {a0 : Array Value} {kI : Nat} (wi : (Jvm.Cond.instantiable ST kI).before a0 Z = true) (al : Z.vm.Alike U.vm) {x t : Addr} {kb : ClassId} {cs : List Int32} {cd N2 : Int32} {vs : List Value} (E : RoadKit.Exa Z U.heap x ST) (V : RoadKit.Fld Z U.heap x ST "value" "[B" (.ref t)) (C : RoadKit.Fld Z U.heap x ST "coder" "B" (.int cd)) (K : RoadKit.Arv Z U.heap t kb .byte N2 vs (.int 0)) (hc : CodA cs cd N2 vs) (hb : ∀ c ∈ cs, ¬ c < 0 ∧ ¬ (65535 : Int32) < c) (l2 : cs.length ≤ 4000) :
    ∃ A, Txt x t A cd cs.length (fun j => cs.getD j 0) U := by
  obtain ⟨A, K1, K2, K3, K4, K5, K6⟩ := K
  have hcod := hc.cod (by omega) K3 K5
  obtain ⟨D, fV, fC, hB, F1, F2, g1, g2, -, -⟩ := strObj wi al E V C
  exact ⟨A, ⟨_, hB.2.2.1, D, hB.1, rfl, by cases q : D.vm <;> first | rfl | exact absurd q (hB.2.1.2 _)⟩, Has.of hB F1 g1, Has.of hB F2 g2, ⟨K1.1, State.isArrayOf_alike al K1.2.1, K1.2.2, by rcases hcod with ⟨-, q, -⟩ | ⟨-, q, -⟩ <;> omega⟩, hcod, fun j hj => by
    have e : cs.getD j 0 = cs[j] := by simp [List.getD_eq_getElem?_getD, hj]
    show ¬ cs.getD j 0 < 0 ∧ ¬ 65535 < cs.getD j 0
    rw [e]; exact hb _ (List.getElem_mem _)⟩
theorem same_list (cs ds : List Int32) : SameT cs.length (fun j => cs.getD j 0) ds.length (fun j => ds.getD j 0) ↔ cs = ds := by
  constructor
  · rintro ⟨e, q⟩
    refine List.ext_getElem e fun j h1 h2 => ?_
    have := q j h1
    simpa [List.getD_eq_getElem?_getD, h1, h2] using this
  · rintro rfl
    exact ⟨rfl, fun _ _ => rfl⟩
/-- **equals(Object) OF TWO SUCH STRINGS**: 1 just where the chars are the same -/
theorem eqW {p : Program} {l : Launch} {e : Env} {R : Room} {s : State} {args : Array Value} {below : List Frame} {len W : Nat} {Z : State} {a0 : Array Value} {h : Heap} (hZ : Z.Warmed39 s.vm) (hw : ∀ d ∈ wordsEq, d.before a0 Z = true) {kI : Nat} (wi : (Jvm.Cond.instantiable ST kI).before a0 Z = true)
    {x t : Addr} {kb : ClassId} {cs : List Int32} {cd N2 : Int32} {vs : List Value} (E : RoadKit.Exa Z h x ST) (V : RoadKit.Fld Z h x ST "value" "[B" (.ref t)) (C : RoadKit.Fld Z h x ST "coder" "B" (.int cd)) (K : RoadKit.Arv Z h t kb .byte N2 vs (.int 0)) (hc : CodA cs cd N2 vs) (hb : ∀ c ∈ cs, ¬ c < 0 ∧ ¬ (65535 : Int32) < c) (l2 : cs.length ≤ 4000)
    {y t' : Addr} {kb' : ClassId} {ds : List Int32} {cd' N2' : Int32} {vs' : List Value} (E' : RoadKit.Exa Z h y ST) (V' : RoadKit.Fld Z h y ST "value" "[B" (.ref t')) (C' : RoadKit.Fld Z h y ST "coder" "B" (.int cd')) (K' : RoadKit.Arv Z h t' kb' .byte N2' vs' (.int 0)) (hc' : CodA ds cd' N2' vs') (hb' : ∀ c ∈ ds, ¬ c < 0 ∧ ¬ (65535 : Int32) < c) (l2' : ds.length ≤ 4000)
    {z : Int32} (S : RoadKit.Sta Z h ST "COMPACT_STRINGS" "Z" (.int z)) (hz : ¬ z = 0) (hfr : 2 ≤ R.frames) (hlo : W + 28 ≤ R.locals) :
    Back l R p e below s args (⟨"java/lang/String", "equals", "(Ljava/lang/Object;)Z"⟩ : MethodName) len W (fun P a => a = #[.ref x, .ref y] ∧ P.U.heap = h ∧ P.cells + 0 ≤ R.cells ∧ P.slots + 0 ≤ R.slots)
      (fun P _ v B => ∃ L, (((v = some (.int 1) ∧ cs = ds) ∨ (v = some (.int 0) ∧ ¬ cs = ds)) ∧ L = [] ∧ B.U.heap = h) ∧ B.locs = P.locs ++ L ∧ B.cells = P.cells + 0 ∧ B.slots = P.slots + 0) := by
  intro m meth c P g ig mk a X hg hsize hdg hW hn hp'
  obtain ⟨rfl, rfl, r1, r2⟩ := hp'
  have al : Z.vm.Alike P.U.vm := hZ.alike.trans X.warmed.alike
  obtain ⟨A, hx⟩ := txt_of wi al E V C K hc hb l2
  obtain ⟨A', hy⟩ := txt_of wi al E' V' C' K' hc' hb' l2'
  obtain ⟨v, B, X', ⟨⟨w, hv, hh, hq⟩, hl, hk, hs⟩, st⟩ := SEq.pays x t A cd cs.length (fun j => cs.getD j 0) y t' A' cd' ds.length (fun j => ds.getD j 0) z (tabEq_of (movedEq hZ hw)) hfr hlo m meth c P g ig mk _ X hg hsize hdg hW hn ⟨r1, r2, rfl, hx, hy, sta_is al S, hz⟩
  refine ⟨v, B, X', ⟨[], ⟨?_, rfl, hh⟩, hl, hk, hs⟩, st⟩
  rcases hq with ⟨rfl, q⟩ | ⟨rfl, q⟩
  · exact Or.inl ⟨hv, (same_list cs ds).mp q⟩
  · exact Or.inr ⟨hv, fun e => q ((same_list cs ds).mpr e)⟩
end StrChars.Road
namespace StrChars.Road
open Jvm Sem ClassFile Op Lib Jvm.Stand Jvm.Free Jvm.Free.XT
open Jvm.Lib.Cold (StaticIs)
/-- what backV says of its String, as the contracts of this text ask it: cs's low bytes, coder 0 -/
theorem codOf {cs : List Int32} {n : Nat} (hn : cs.length = n) (hb : ∀ c ∈ cs, ¬ 255 < c) : CodA cs 0 (Int32.ofNat n) ((cs.map lo8).map Value.int) := Or.inl ⟨rfl, by rw [hn], by simp [List.map_map, Function.comp_def], hb⟩
end StrChars.Road
end Jvm.Pilot.@@N@@
namespace Jvm.RoadKit
open Sem ClassFile Op Lib Jvm.Stand Jvm.Free Jvm.LawKit
section New
variable {p : Program} {l : Launch} {e : Env} {R : Room} {s : State} {m : MethodId} {args : Array Value} {below : List Frame} {meth : Method} {c : Code} {T : State} {locs : List Loc} {cells slots : Nat}
theorem retI (X : Stand p l e R s m args below meth c T locs cells slots) (hx : p.tables.exec = Jvm.exec) {pc : Nat} {Ls : Array Slot} {z : Int32} {rest : List Value} (hret : meth.sig.returnType = some .int) (hd : decode c.code pc = .ok (.ireturn, 1)) {fs : List Frame}
    (hl : ∀ (f : JFrame) (acts : List Action), f.method = m → f.locked = none → f.entered = [] → (doReturn e (T.setTop f) acts (some (.int z))).1 = T.setFrames fs) : Steps p.tables e below (T.setTop (mkF m pc Ls (.int z :: rest))) (T.setFrames fs) := by
  have hm' : T.vm.method? m = some meth := X.method'
  have hn : narrow .int (.int z) = .int z := rfl
  show Steps p.tables e below (T.setTop { method := m, pc := pc, locals := Ls, stack := _ :: rest, locked := none }) _
  jvm_step X.here [X.here.top, hx, hd, hm', hret, hn]
  first | (intro acts; rw [hl _ acts rfl rfl rfl]) | rw [hl _ _ rfl rfl rfl]
  exact Steps.refl _
end New
end Jvm.RoadKit
namespace Jvm.Pilot.@@N@@
open Jvm Jvm.ClassFile Sem Op Lib Jvm.Free Jvm.Stand Jvm.LawKit Jvm.RoadKit Bundle Jvm.Pilot.@@N@@.Jvm.D
/-- where the walk stands, and what is still to come of it -/
abbrev Go (tb : Tables) (e : Env) (below : List Frame) (P : State → Outcome → Prop) (σ : State) : Prop := ∃ s₂ o, Steps tb e below σ s₂ ∧ P s₂ o
theorem go_st {tb : Tables} {e : Env} {below : List Frame} {P : State → Outcome → Prop} {σ σ' : State} (st : ∀ t, Steps tb e below σ' t → Steps tb e below σ t) (k : Go tb e below P σ') : Go tb e below P σ := by
  obtain ⟨a, b, c, d⟩ := k; exact ⟨a, b, st _ c, d⟩
theorem go_tr {tb : Tables} {e : Env} {below : List Frame} {P : State → Outcome → Prop} {σ σ' : State} (st : Steps tb e below σ σ') (k : Go tb e below P σ') : Go tb e below P σ := by
  obtain ⟨a, b, c, d⟩ := k; exact ⟨a, b, st.trans c, d⟩
theorem go_named {tb : Tables} {e : Env} {below : List Frame} {P : State → Outcome → Prop} {σ : State} (k : ∀ P', P' = P → Go tb e below P' σ) : Go tb e below P σ := k P rfl
theorem ext_rfl (h : Heap) : Ext h h := ⟨Nat.le_refl _, fun _ _ q => q⟩
theorem ext_tr {h h' h'' : Heap} (E : Ext h h') (E' : Ext h' h'') : Ext h h'' := ⟨Nat.le_trans E.1 E'.1, fun a c q => E'.2 a c (E.2 a c q)⟩
theorem ext_keep {h h' h'' : Heap} {ws : List Addr} (E : Ext h h') (K : Keep h' h'' ws) (q : ∀ x ∈ ws, h.size ≤ x) : Ext h h'' :=
  ⟨Nat.le_trans E.1 K.1, fun a c r => K.2.1 a c (E.2 a c r) fun z => absurd (Array.getElem?_eq_some_iff.mp r).1 (Nat.not_lt.mpr (q a z))⟩
theorem ext_wr {h h' h'' : Heap} {b : Addr} {sl : Nat} {v : Value} (E : Ext h h') (W : Wr h' h'' b sl v) (q : h.size ≤ b) : Ext h h'' := ext_keep E (Keep.of_wr W) (allS q all0)
theorem keep_of_ext {h h' : Heap} (E : Ext h h') : Keep h h' [] := (Keep.refl h []).ext E
theorem ref_cat {v : Value} (h : v.isRef = true) : v.category = 1 := by rcases ref_cases h with rfl | ⟨a, rfl⟩ <;> rfl
theorem ref_fits {v : Value} (C : String) (h : v.isRef = true) : fits (.object C) v = true := by rcases ref_cases h with rfl | ⟨a, rfl⟩ <;> rfl
theorem ref_narrow {v : Value} (C : String) (h : v.isRef = true) : narrow (.object C) v = v := by rcases ref_cases h with rfl | ⟨a, rfl⟩ <;> rfl
theorem w123 {Z : State} {a0 : Array Value} (hw : ∀ d ∈ tables_1, d.before a0 Z = true) : (Jvm.Cond.stringLink "java/lang/String" (7 : Nat) "").before a0 Z = true := hw _ (List.mem_of_getElem? (i := 123) rfl)
theorem w122 {Z : State} {a0 : Array Value} (hw : ∀ d ∈ tables_1, d.before a0 Z = true) : (Jvm.Cond.stringLink "com/example/nudge/nudge/tree/NodeScalarPinLaw" (67 : Nat) "true").before a0 Z = true := hw _ (List.mem_of_getElem? (i := 122) rfl)
theorem w114 {Z : State} {a0 : Array Value} (hw : ∀ d ∈ tables_1, d.before a0 Z = true) : (Jvm.Cond.stringLink "com/example/nudge/nudge/tree/Node" (142 : Nat) "true").before a0 Z = true := hw _ (List.mem_of_getElem? (i := 114) rfl)
theorem pn_java_lang_String : plainName "java/lang/String" = true := by first | (simp [plainName, overriddenIn]; done) | decide +kernel
theorem w9 {Z : State} {a0 : Array Value} (hw : ∀ d ∈ tables_1, d.before a0 Z = true) : (Jvm.Cond.instantiable "java/lang/String" (4 : Nat)).before a0 Z = true := hw _ (List.mem_of_getElem? (i := 9) rfl)
theorem d0_0 : decode jdk_42_method_149_code 0 = .ok (.aload_n 0, 1) := by decide +kernel
theorem d0_1 : decode jdk_42_method_149_code 1 = .ok (.invokespecial 1, 3) := by decide +kernel
theorem w18 {Z : State} {a0 : Array Value} (hw : ∀ d ∈ tables_1, d.before a0 Z = true) : (Jvm.Cond.methodLink "java/lang/String" (1 : Nat) ({ cls := "java/lang/Object", name := "<init>", desc := "()V" } : Jvm.MethodName)).before a0 Z = true := hw _ (List.mem_of_getElem? (i := 18) rfl)
theorem w19 {Z : State} {a0 : Array Value} (hw : ∀ d ∈ tables_1, d.before a0 Z = true) : (Jvm.Cond.instanceMethod ({ cls := "java/lang/Object", name := "<init>", desc := "()V" } : Jvm.MethodName)).before a0 Z = true := hw _ (List.mem_of_getElem? (i := 19) rfl)
theorem w20 {Z : State} {a0 : Array Value} (hw : ∀ d ∈ tables_1, d.before a0 Z = true) : (Jvm.Cond.code ({ cls := "java/lang/Object", name := "<init>", desc := "()V" } : Jvm.MethodName) object_method_1_code (1 : Nat) (Option.none : Option Jvm.ClassFile.FieldType)).before a0 Z = true := hw _ (List.mem_of_getElem? (i := 20) rfl)
theorem d0_4 : decode jdk_42_method_149_code 4 = .ok (.iload_n 3, 1) := by decide +kernel
theorem d0_5 : decode jdk_42_method_149_code 5 = .ok (.ifCond .ne 22, 3) := by decide +kernel
theorem d0_8 : decode jdk_42_method_149_code 8 = .ok (.aload_n 0, 1) := by decide +kernel
theorem d0_9 : decode jdk_42_method_149_code 9 = .ok (.ldc 7, 2) := by decide +kernel
theorem d0_11 : decode jdk_42_method_149_code 11 = .ok (.getfield 9, 3) := by decide +kernel
theorem w35 {Z : State} {a0 : Array Value} (hw : ∀ d ∈ tables_1, d.before a0 Z = true) : (Jvm.Cond.fieldLink "java/lang/String" (9 : Nat) "java/lang/String" "value" "[B").before a0 Z = true := hw _ (List.mem_of_getElem? (i := 35) rfl)
theorem d0_14 : decode jdk_42_method_149_code 14 = .ok (.putfield 9, 3) := by decide +kernel
theorem w36 {Z : State} {a0 : Array Value} (hw : ∀ d ∈ tables_1, d.before a0 Z = true) : (Jvm.Cond.laysFinal "java/lang/String" "java/lang/String" "value" "[B").before a0 Z = true := hw _ (List.mem_of_getElem? (i := 36) rfl)
theorem d0_17 : decode jdk_42_method_149_code 17 = .ok (.aload_n 0, 1) := by decide +kernel
theorem d0_18 : decode jdk_42_method_149_code 18 = .ok (.ldc 7, 2) := by decide +kernel
theorem d0_20 : decode jdk_42_method_149_code 20 = .ok (.getfield 15, 3) := by decide +kernel
theorem w33 {Z : State} {a0 : Array Value} (hw : ∀ d ∈ tables_1, d.before a0 Z = true) : (Jvm.Cond.fieldLink "java/lang/String" (15 : Nat) "java/lang/String" "coder" "B").before a0 Z = true := hw _ (List.mem_of_getElem? (i := 33) rfl)
theorem d0_23 : decode jdk_42_method_149_code 23 = .ok (.putfield 15, 3) := by decide +kernel
theorem w34 {Z : State} {a0 : Array Value} (hw : ∀ d ∈ tables_1, d.before a0 Z = true) : (Jvm.Cond.laysFinal "java/lang/String" "java/lang/String" "coder" "B").before a0 Z = true := hw _ (List.mem_of_getElem? (i := 34) rfl)
theorem d0_26 : decode jdk_42_method_149_code 26 = .ok (.return_, 1) := by decide +kernel
theorem d1_0 : decode jdk_42_method_3_code 0 = .ok (.aload_n 0, 1) := by decide +kernel
theorem d1_1 : decode jdk_42_method_3_code 1 = .ok (.aload_n 1, 1) := by decide +kernel
theorem d1_2 : decode jdk_42_method_3_code 2 = .ok (.iconst 0, 1) := by decide +kernel
theorem d1_3 : decode jdk_42_method_3_code 3 = .ok (.aload_n 1, 1) := by decide +kernel
theorem d1_4 : decode jdk_42_method_3_code 4 = .ok (.arraylength, 1) := by decide +kernel
theorem d1_5 : decode jdk_42_method_3_code 5 = .ok (.aconst_null, 1) := by decide +kernel
theorem d1_6 : decode jdk_42_method_3_code 6 = .ok (.invokespecial 27, 3) := by decide +kernel
theorem w17 {Z : State} {a0 : Array Value} (hw : ∀ d ∈ tables_1, d.before a0 Z = true) : (Jvm.Cond.code ({ cls := "java/lang/String", name := "<init>", desc := "([CIILjava/lang/Void;)V" } : Jvm.MethodName) jdk_42_method_149_code (6 : Nat) (Option.none : Option Jvm.ClassFile.FieldType)).before a0 Z = true := hw _ (List.mem_of_getElem? (i := 17) rfl)
theorem w10 {Z : State} {a0 : Array Value} (hw : ∀ d ∈ tables_1, d.before a0 Z = true) : (Jvm.Cond.initialized "java/lang/String").before a0 Z = true := hw _ (List.mem_of_getElem? (i := 10) rfl)
theorem pd_0 : parseMethodDescriptor "([CIILjava/lang/Void;)V" = some ⟨[(.array .char), .int, .int, (.object "java/lang/Void")], none⟩ := by decide +kernel
theorem w14 {Z : State} {a0 : Array Value} (hw : ∀ d ∈ tables_1, d.before a0 Z = true) : (Jvm.Cond.methodLink "java/lang/String" (27 : Nat) ({ cls := "java/lang/String", name := "<init>", desc := "([CIILjava/lang/Void;)V" } : Jvm.MethodName)).before a0 Z = true := hw _ (List.mem_of_getElem? (i := 14) rfl)
theorem w15 {Z : State} {a0 : Array Value} (hw : ∀ d ∈ tables_1, d.before a0 Z = true) : (Jvm.Cond.instanceMethod ({ cls := "java/lang/String", name := "<init>", desc := "([CIILjava/lang/Void;)V" } : Jvm.MethodName)).before a0 Z = true := hw _ (List.mem_of_getElem? (i := 15) rfl)
theorem d1_9 : decode jdk_42_method_3_code 9 = .ok (.return_, 1) := by decide +kernel
theorem pn_com_example_nudge_nudge_tree_Node : plainName "com/example/nudge/nudge/tree/Node" = true := by first | (simp [plainName, overriddenIn]; done) | decide +kernel
theorem d2_0 : decode prog_21_method_1_code 0 = .ok (.aload_n 0, 1) := by decide +kernel
theorem d2_1 : decode prog_21_method_1_code 1 = .ok (.invokespecial 1, 3) := by decide +kernel
theorem w56 {Z : State} {a0 : Array Value} (hw : ∀ d ∈ tables_1, d.before a0 Z = true) : (Jvm.Cond.methodLink "com/example/nudge/nudge/tree/Node" (1 : Nat) ({ cls := "java/lang/Object", name := "<init>", desc := "()V" } : Jvm.MethodName)).before a0 Z = true := hw _ (List.mem_of_getElem? (i := 56) rfl)
theorem d2_4 : decode prog_21_method_1_code 4 = .ok (.aload_n 0, 1) := by decide +kernel
theorem d2_5 : decode prog_21_method_1_code 5 = .ok (.aload_n 1, 1) := by decide +kernel
theorem d2_6 : decode prog_21_method_1_code 6 = .ok (.putfield 7, 3) := by decide +kernel
theorem w57 {Z : State} {a0 : Array Value} (hw : ∀ d ∈ tables_1, d.before a0 Z = true) : (Jvm.Cond.fieldLink "com/example/nudge/nudge/tree/Node" (7 : Nat) "com/example/nudge/nudge/tree/Node" "kind" "Lcom/example/nudge/nudge/tree/Node$Kind;").before a0 Z = true := hw _ (List.mem_of_getElem? (i := 57) rfl)
theorem w58 {Z : State} {a0 : Array Value} (hw : ∀ d ∈ tables_1, d.before a0 Z = true) : (Jvm.Cond.laysFinal "com/example/nudge/nudge/tree/Node" "com/example/nudge/nudge/tree/Node" "kind" "Lcom/example/nudge/nudge/tree/Node$Kind;").before a0 Z = true := hw _ (List.mem_of_getElem? (i := 58) rfl)
theorem w46 {Z : State} {a0 : Array Value} (hw : ∀ d ∈ tables_1, d.before a0 Z = true) : (Jvm.Cond.instantiable "com/example/nudge/nudge/tree/Node" (6 : Nat)).before a0 Z = true := hw _ (List.mem_of_getElem? (i := 46) rfl)
theorem d2_9 : decode prog_21_method_1_code 9 = .ok (.aload_n 0, 1) := by decide +kernel
theorem d2_10 : decode prog_21_method_1_code 10 = .ok (.aload_n 2, 1) := by decide +kernel
theorem d2_11 : decode prog_21_method_1_code 11 = .ok (.putfield 13, 3) := by decide +kernel
theorem w59 {Z : State} {a0 : Array Value} (hw : ∀ d ∈ tables_1, d.before a0 Z = true) : (Jvm.Cond.fieldLink "com/example/nudge/nudge/tree/Node" (13 : Nat) "com/example/nudge/nudge/tree/Node" "text" "Ljava/lang/String;").before a0 Z = true := hw _ (List.mem_of_getElem? (i := 59) rfl)
theorem w60 {Z : State} {a0 : Array Value} (hw : ∀ d ∈ tables_1, d.before a0 Z = true) : (Jvm.Cond.laysFinal "com/example/nudge/nudge/tree/Node" "com/example/nudge/nudge/tree/Node" "text" "Ljava/lang/String;").before a0 Z = true := hw _ (List.mem_of_getElem? (i := 60) rfl)
theorem d2_14 : decode prog_21_method_1_code 14 = .ok (.aload_n 0, 1) := by decide +kernel
theorem d2_15 : decode prog_21_method_1_code 15 = .ok (.aload_n 3, 1) := by decide +kernel
theorem d2_16 : decode prog_21_method_1_code 16 = .ok (.putfield 17, 3) := by decide +kernel
theorem w61 {Z : State} {a0 : Array Value} (hw : ∀ d ∈ tables_1, d.before a0 Z = true) : (Jvm.Cond.fieldLink "com/example/nudge/nudge/tree/Node" (17 : Nat) "com/example/nudge/nudge/tree/Node" "names" "[Ljava/lang/String;").before a0 Z = true := hw _ (List.mem_of_getElem? (i := 61) rfl)
theorem w62 {Z : State} {a0 : Array Value} (hw : ∀ d ∈ tables_1, d.before a0 Z = true) : (Jvm.Cond.laysFinal "com/example/nudge/nudge/tree/Node" "com/example/nudge/nudge/tree/Node" "names" "[Ljava/lang/String;").before a0 Z = true := hw _ (List.mem_of_getElem? (i := 62) rfl)
theorem d2_19 : decode prog_21_method_1_code 19 = .ok (.aload_n 0, 1) := by decide +kernel
theorem d2_20 : decode prog_21_method_1_code 20 = .ok (.aload 4, 2) := by decide +kernel
theorem d2_22 : decode prog_21_method_1_code 22 = .ok (.putfield 21, 3) := by decide +kernel
theorem w63 {Z : State} {a0 : Array Value} (hw : ∀ d ∈ tables_1, d.before a0 Z = true) : (Jvm.Cond.fieldLink "com/example/nudge/nudge/tree/Node" (21 : Nat) "com/example/nudge/nudge/tree/Node" "values" "[Lcom/example/nudge/nudge/tree/Node;").before a0 Z = true := hw _ (List.mem_of_getElem? (i := 63) rfl)
theorem w64 {Z : State} {a0 : Array Value} (hw : ∀ d ∈ tables_1, d.before a0 Z = true) : (Jvm.Cond.laysFinal "com/example/nudge/nudge/tree/Node" "com/example/nudge/nudge/tree/Node" "values" "[Lcom/example/nudge/nudge/tree/Node;").before a0 Z = true := hw _ (List.mem_of_getElem? (i := 64) rfl)
theorem d2_25 : decode prog_21_method_1_code 25 = .ok (.aload_n 0, 1) := by decide +kernel
theorem d2_26 : decode prog_21_method_1_code 26 = .ok (.aload 5, 2) := by decide +kernel
theorem d2_28 : decode prog_21_method_1_code 28 = .ok (.putfield 25, 3) := by decide +kernel
theorem w65 {Z : State} {a0 : Array Value} (hw : ∀ d ∈ tables_1, d.before a0 Z = true) : (Jvm.Cond.fieldLink "com/example/nudge/nudge/tree/Node" (25 : Nat) "com/example/nudge/nudge/tree/Node" "places" "[I").before a0 Z = true := hw _ (List.mem_of_getElem? (i := 65) rfl)
theorem w66 {Z : State} {a0 : Array Value} (hw : ∀ d ∈ tables_1, d.before a0 Z = true) : (Jvm.Cond.laysFinal "com/example/nudge/nudge/tree/Node" "com/example/nudge/nudge/tree/Node" "places" "[I").before a0 Z = true := hw _ (List.mem_of_getElem? (i := 66) rfl)
theorem d2_31 : decode prog_21_method_1_code 31 = .ok (.aload_n 0, 1) := by decide +kernel
theorem d2_32 : decode prog_21_method_1_code 32 = .ok (.aload 6, 2) := by decide +kernel
theorem d2_34 : decode prog_21_method_1_code 34 = .ok (.putfield 29, 3) := by decide +kernel
theorem w67 {Z : State} {a0 : Array Value} (hw : ∀ d ∈ tables_1, d.before a0 Z = true) : (Jvm.Cond.fieldLink "com/example/nudge/nudge/tree/Node" (29 : Nat) "com/example/nudge/nudge/tree/Node" "positions" "Ljava/util/Map;").before a0 Z = true := hw _ (List.mem_of_getElem? (i := 67) rfl)
theorem w68 {Z : State} {a0 : Array Value} (hw : ∀ d ∈ tables_1, d.before a0 Z = true) : (Jvm.Cond.laysFinal "com/example/nudge/nudge/tree/Node" "com/example/nudge/nudge/tree/Node" "positions" "Ljava/util/Map;").before a0 Z = true := hw _ (List.mem_of_getElem? (i := 68) rfl)
theorem d2_37 : decode prog_21_method_1_code 37 = .ok (.return_, 1) := by decide +kernel
theorem d3_0 : decode prog_21_method_2_code 0 = .ok (.aload_n 0, 1) := by decide +kernel
theorem d3_1 : decode prog_21_method_2_code 1 = .ok (.getstatic 33, 3) := by decide +kernel
theorem w41 {Z : State} {a0 : Array Value} (hw : ∀ d ∈ tables_1, d.before a0 Z = true) : (Jvm.Cond.fieldLink "com/example/nudge/nudge/tree/Node" (33 : Nat) "com/example/nudge/nudge/tree/Node$Kind" "OBJECT" "Lcom/example/nudge/nudge/tree/Node$Kind;").before a0 Z = true := hw _ (List.mem_of_getElem? (i := 41) rfl)
theorem d3_4 : decode prog_21_method_2_code 4 = .ok (.if_acmp .eq 10, 3) := by decide +kernel
theorem d3_7 : decode prog_21_method_2_code 7 = .ok (.aload_n 0, 1) := by decide +kernel
theorem d3_8 : decode prog_21_method_2_code 8 = .ok (.getstatic 38, 3) := by decide +kernel
theorem w43 {Z : State} {a0 : Array Value} (hw : ∀ d ∈ tables_1, d.before a0 Z = true) : (Jvm.Cond.fieldLink "com/example/nudge/nudge/tree/Node" (38 : Nat) "com/example/nudge/nudge/tree/Node$Kind" "ARRAY" "Lcom/example/nudge/nudge/tree/Node$Kind;").before a0 Z = true := hw _ (List.mem_of_getElem? (i := 43) rfl)
theorem d3_11 : decode prog_21_method_2_code 11 = .ok (.if_acmp .ne 20, 3) := by decide +kernel
theorem d3_31 : decode prog_21_method_2_code 31 = .ok (.new 8, 3) := by decide +kernel
theorem w45 {Z : State} {a0 : Array Value} (hw : ∀ d ∈ tables_1, d.before a0 Z = true) : (Jvm.Cond.classLink "com/example/nudge/nudge/tree/Node" (8 : Nat) "com/example/nudge/nudge/tree/Node").before a0 Z = true := hw _ (List.mem_of_getElem? (i := 45) rfl)
theorem w39 {Z : State} {a0 : Array Value} (hw : ∀ d ∈ tables_1, d.before a0 Z = true) : (Jvm.Cond.initialized "com/example/nudge/nudge/tree/Node").before a0 Z = true := hw _ (List.mem_of_getElem? (i := 39) rfl)
theorem d3_34 : decode prog_21_method_2_code 34 = .ok (.dup, 1) := by decide +kernel
theorem d3_35 : decode prog_21_method_2_code 35 = .ok (.aload_n 0, 1) := by decide +kernel
theorem d3_36 : decode prog_21_method_2_code 36 = .ok (.aload_n 1, 1) := by decide +kernel
theorem d3_37 : decode prog_21_method_2_code 37 = .ok (.getstatic 56, 3) := by decide +kernel
theorem w47 {Z : State} {a0 : Array Value} (hw : ∀ d ∈ tables_1, d.before a0 Z = true) : (Jvm.Cond.fieldLink "com/example/nudge/nudge/tree/Node" (56 : Nat) "com/example/nudge/nudge/tree/Node" "NO_NAMES" "[Ljava/lang/String;").before a0 Z = true := hw _ (List.mem_of_getElem? (i := 47) rfl)
theorem d3_40 : decode prog_21_method_2_code 40 = .ok (.getstatic 59, 3) := by decide +kernel
theorem w49 {Z : State} {a0 : Array Value} (hw : ∀ d ∈ tables_1, d.before a0 Z = true) : (Jvm.Cond.fieldLink "com/example/nudge/nudge/tree/Node" (59 : Nat) "com/example/nudge/nudge/tree/Node" "NO_VALUES" "[Lcom/example/nudge/nudge/tree/Node;").before a0 Z = true := hw _ (List.mem_of_getElem? (i := 49) rfl)
theorem d3_43 : decode prog_21_method_2_code 43 = .ok (.getstatic 62, 3) := by decide +kernel
theorem w51 {Z : State} {a0 : Array Value} (hw : ∀ d ∈ tables_1, d.before a0 Z = true) : (Jvm.Cond.fieldLink "com/example/nudge/nudge/tree/Node" (62 : Nat) "com/example/nudge/nudge/tree/Node" "NO_PLACES" "[I").before a0 Z = true := hw _ (List.mem_of_getElem? (i := 51) rfl)
theorem d3_46 : decode prog_21_method_2_code 46 = .ok (.aconst_null, 1) := by decide +kernel
theorem d3_47 : decode prog_21_method_2_code 47 = .ok (.invokespecial 65, 3) := by decide +kernel
theorem w55 {Z : State} {a0 : Array Value} (hw : ∀ d ∈ tables_1, d.before a0 Z = true) : (Jvm.Cond.code ({ cls := "com/example/nudge/nudge/tree/Node", name := "<init>", desc := "(Lcom/example/nudge/nudge/tree/Node$Kind;Ljava/lang/String;[Ljava/lang/String;[Lcom/example/nudge/nudge/tree/Node;[ILjava/util/Map;)V" } : Jvm.MethodName) prog_21_method_1_code (7 : Nat) (Option.none : Option Jvm.ClassFile.FieldType)).before a0 Z = true := hw _ (List.mem_of_getElem? (i := 55) rfl)
theorem pd_1 : parseMethodDescriptor "(Lcom/example/nudge/nudge/tree/Node$Kind;Ljava/lang/String;[Ljava/lang/String;[Lcom/example/nudge/nudge/tree/Node;[ILjava/util/Map;)V" = some ⟨[(.object "com/example/nudge/nudge/tree/Node$Kind"), (.object "java/lang/String"), (.array (.object "java/lang/String")), (.array (.object "com/example/nudge/nudge/tree/Node")), (.array .int), (.object "java/util/Map")], none⟩ := by decide +kernel
theorem w53 {Z : State} {a0 : Array Value} (hw : ∀ d ∈ tables_1, d.before a0 Z = true) : (Jvm.Cond.methodLink "com/example/nudge/nudge/tree/Node" (65 : Nat) ({ cls := "com/example/nudge/nudge/tree/Node", name := "<init>", desc := "(Lcom/example/nudge/nudge/tree/Node$Kind;Ljava/lang/String;[Ljava/lang/String;[Lcom/example/nudge/nudge/tree/Node;[ILjava/util/Map;)V" } : Jvm.MethodName)).before a0 Z = true := hw _ (List.mem_of_getElem? (i := 53) rfl)
theorem w54 {Z : State} {a0 : Array Value} (hw : ∀ d ∈ tables_1, d.before a0 Z = true) : (Jvm.Cond.instanceMethod ({ cls := "com/example/nudge/nudge/tree/Node", name := "<init>", desc := "(Lcom/example/nudge/nudge/tree/Node$Kind;Ljava/lang/String;[Ljava/lang/String;[Lcom/example/nudge/nudge/tree/Node;[ILjava/util/Map;)V" } : Jvm.MethodName)).before a0 Z = true := hw _ (List.mem_of_getElem? (i := 54) rfl)
theorem d3_50 : decode prog_21_method_2_code 50 = .ok (.areturn, 1) := by decide +kernel
theorem d4_0 : decode prog_21_method_3_code 0 = .ok (.aload_n 0, 1) := by decide +kernel
theorem d4_1 : decode prog_21_method_3_code 1 = .ok (.getfield 7, 3) := by decide +kernel
theorem d4_4 : decode prog_21_method_3_code 4 = .ok (.areturn, 1) := by decide +kernel
theorem d5_0 : decode prog_21_method_4_code 0 = .ok (.aload_n 0, 1) := by decide +kernel
theorem d5_1 : decode prog_21_method_4_code 1 = .ok (.getfield 13, 3) := by decide +kernel
theorem d5_4 : decode prog_21_method_4_code 4 = .ok (.areturn, 1) := by decide +kernel
theorem d6_0 : decode jdk_42_method_66_code 0 = .ok (.aload_n 0, 1) := by decide +kernel
theorem d6_1 : decode jdk_42_method_66_code 1 = .ok (.aload_n 1, 1) := by decide +kernel
theorem d6_2 : decode jdk_42_method_66_code 2 = .ok (.if_acmp .ne 5, 3) := by decide +kernel
theorem d6_5 : decode jdk_42_method_66_code 5 = .ok (.iconst 1, 1) := by decide +kernel
theorem d6_6 : decode jdk_42_method_66_code 6 = .ok (.ireturn, 1) := by decide +kernel
theorem d7_0 : decode prog_21_method_10_code 0 = .ok (.aload_n 0, 1) := by decide +kernel
theorem d7_1 : decode prog_21_method_10_code 1 = .ok (.getfield 7, 3) := by decide +kernel
theorem d7_4 : decode prog_21_method_10_code 4 = .ok (.getstatic 38, 3) := by decide +kernel
theorem d7_7 : decode prog_21_method_10_code 7 = .ok (.if_acmp .ne 11, 3) := by decide +kernel
theorem d7_18 : decode prog_21_method_10_code 18 = .ok (.iconst 0, 1) := by decide +kernel
theorem d7_19 : decode prog_21_method_10_code 19 = .ok (.ireturn, 1) := by decide +kernel
theorem d8_0 : decode prog_21_method_15_code 0 = .ok (.iconst (-1), 1) := by decide +kernel
theorem d8_1 : decode prog_21_method_15_code 1 = .ok (.istore 4, 2) := by decide +kernel
theorem d8_3 : decode prog_21_method_15_code 3 = .ok (.aload_n 2, 1) := by decide +kernel
theorem d8_4 : decode prog_21_method_15_code 4 = .ok (.ifnull 34, 3) := by decide +kernel
theorem d8_38 : decode prog_21_method_15_code 38 = .ok (.iconst 0, 1) := by decide +kernel
theorem d8_39 : decode prog_21_method_15_code 39 = .ok (.istore 5, 2) := by decide +kernel
theorem d8_41 : decode prog_21_method_15_code 41 = .ok (.iload 4, 2) := by decide +kernel
theorem d8_43 : decode prog_21_method_15_code 43 = .ok (.ifCond .ge 30, 3) := by decide +kernel
theorem d8_46 : decode prog_21_method_15_code 46 = .ok (.iload 5, 2) := by decide +kernel
theorem d8_48 : decode prog_21_method_15_code 48 = .ok (.iload_n 1, 1) := by decide +kernel
theorem d8_49 : decode prog_21_method_15_code 49 = .ok (.if_icmp .ge 24, 3) := by decide +kernel
theorem d8_73 : decode prog_21_method_15_code 73 = .ok (.iload 4, 2) := by decide +kernel
theorem d8_75 : decode prog_21_method_15_code 75 = .ok (.ireturn, 1) := by decide +kernel
theorem d9_0 : decode prog_21_method_6_code 0 = .ok (.aload_n 0, 1) := by decide +kernel
theorem d9_1 : decode prog_21_method_6_code 1 = .ok (.getfield 17, 3) := by decide +kernel
theorem d9_4 : decode prog_21_method_6_code 4 = .ok (.aload_n 0, 1) := by decide +kernel
theorem d9_5 : decode prog_21_method_6_code 5 = .ok (.getfield 17, 3) := by decide +kernel
theorem d9_8 : decode prog_21_method_6_code 8 = .ok (.arraylength, 1) := by decide +kernel
theorem d9_9 : decode prog_21_method_6_code 9 = .ok (.aload_n 0, 1) := by decide +kernel
theorem d9_10 : decode prog_21_method_6_code 10 = .ok (.getfield 29, 3) := by decide +kernel
theorem d9_13 : decode prog_21_method_6_code 13 = .ok (.aload_n 1, 1) := by decide +kernel
theorem d9_14 : decode prog_21_method_6_code 14 = .ok (.invokestatic 80, 3) := by decide +kernel
theorem w96 {Z : State} {a0 : Array Value} (hw : ∀ d ∈ tables_1, d.before a0 Z = true) : (Jvm.Cond.code ({ cls := "com/example/nudge/nudge/tree/Node", name := "position", desc := "([Ljava/lang/String;ILjava/util/Map;Ljava/lang/String;)I" } : Jvm.MethodName) prog_21_method_15_code (6 : Nat) (Option.some Jvm.ClassFile.FieldType.int)).before a0 Z = true := hw _ (List.mem_of_getElem? (i := 96) rfl)
theorem pd_2 : parseMethodDescriptor "([Ljava/lang/String;ILjava/util/Map;Ljava/lang/String;)I" = some ⟨[(.array (.object "java/lang/String")), .int, (.object "java/util/Map"), (.object "java/lang/String")], some .int⟩ := by decide +kernel
theorem w94 {Z : State} {a0 : Array Value} (hw : ∀ d ∈ tables_1, d.before a0 Z = true) : (Jvm.Cond.methodLink "com/example/nudge/nudge/tree/Node" (80 : Nat) ({ cls := "com/example/nudge/nudge/tree/Node", name := "position", desc := "([Ljava/lang/String;ILjava/util/Map;Ljava/lang/String;)I" } : Jvm.MethodName)).before a0 Z = true := hw _ (List.mem_of_getElem? (i := 94) rfl)
theorem w95 {Z : State} {a0 : Array Value} (hw : ∀ d ∈ tables_1, d.before a0 Z = true) : (Jvm.Cond.static ({ cls := "com/example/nudge/nudge/tree/Node", name := "position", desc := "([Ljava/lang/String;ILjava/util/Map;Ljava/lang/String;)I" } : Jvm.MethodName)).before a0 Z = true := hw _ (List.mem_of_getElem? (i := 95) rfl)
theorem d9_17 : decode prog_21_method_6_code 17 = .ok (.istore_n 2, 1) := by decide +kernel
theorem d9_18 : decode prog_21_method_6_code 18 = .ok (.iload_n 2, 1) := by decide +kernel
theorem d9_19 : decode prog_21_method_6_code 19 = .ok (.ifCond .ge 7, 3) := by decide +kernel
theorem d9_22 : decode prog_21_method_6_code 22 = .ok (.aconst_null, 1) := by decide +kernel
theorem d9_23 : decode prog_21_method_6_code 23 = .ok (.goto 9, 3) := by decide +kernel
theorem d9_32 : decode prog_21_method_6_code 32 = .ok (.areturn, 1) := by decide +kernel
theorem d10_0 : decode prog_21_method_19_code 0 = .ok (.aload_n 0, 1) := by decide +kernel
theorem d10_1 : decode prog_21_method_19_code 1 = .ok (.ifnull 28, 3) := by decide +kernel
theorem d10_4 : decode prog_21_method_19_code 4 = .ok (.aload_n 0, 1) := by decide +kernel
theorem d10_5 : decode prog_21_method_19_code 5 = .ok (.invokevirtual 130, 3) := by decide +kernel
theorem w73 {Z : State} {a0 : Array Value} (hw : ∀ d ∈ tables_1, d.before a0 Z = true) : (Jvm.Cond.code ({ cls := "com/example/nudge/nudge/tree/Node", name := "kind", desc := "()Lcom/example/nudge/nudge/tree/Node$Kind;" } : Jvm.MethodName) prog_21_method_3_code (1 : Nat) (Option.some (Jvm.ClassFile.FieldType.object "com/example/nudge/nudge/tree/Node$Kind"))).before a0 Z = true := hw _ (List.mem_of_getElem? (i := 73) rfl)
theorem pd_3 : parseMethodDescriptor "()Lcom/example/nudge/nudge/tree/Node$Kind;" = some ⟨[], some (.object "com/example/nudge/nudge/tree/Node$Kind")⟩ := by decide +kernel
theorem w100 {Z : State} {a0 : Array Value} (hw : ∀ d ∈ tables_1, d.before a0 Z = true) : (Jvm.Cond.methodLink "com/example/nudge/nudge/tree/Node" (130 : Nat) ({ cls := "com/example/nudge/nudge/tree/Node", name := "kind", desc := "()Lcom/example/nudge/nudge/tree/Node$Kind;" } : Jvm.MethodName)).before a0 Z = true := hw _ (List.mem_of_getElem? (i := 100) rfl)
theorem w72 {Z : State} {a0 : Array Value} (hw : ∀ d ∈ tables_1, d.before a0 Z = true) : (Jvm.Cond.selects "com/example/nudge/nudge/tree/Node" ({ cls := "com/example/nudge/nudge/tree/Node", name := "kind", desc := "()Lcom/example/nudge/nudge/tree/Node$Kind;" } : Jvm.MethodName) ({ cls := "com/example/nudge/nudge/tree/Node", name := "kind", desc := "()Lcom/example/nudge/nudge/tree/Node$Kind;" } : Jvm.MethodName)).before a0 Z = true := hw _ (List.mem_of_getElem? (i := 72) rfl)
theorem w70 {Z : State} {a0 : Array Value} (hw : ∀ d ∈ tables_1, d.before a0 Z = true) : (Jvm.Cond.declares ({ cls := "com/example/nudge/nudge/tree/Node", name := "kind", desc := "()Lcom/example/nudge/nudge/tree/Node$Kind;" } : Jvm.MethodName)).before a0 Z = true := hw _ (List.mem_of_getElem? (i := 70) rfl)
theorem w71 {Z : State} {a0 : Array Value} (hw : ∀ d ∈ tables_1, d.before a0 Z = true) : (Jvm.Cond.instanceMethod ({ cls := "com/example/nudge/nudge/tree/Node", name := "kind", desc := "()Lcom/example/nudge/nudge/tree/Node$Kind;" } : Jvm.MethodName)).before a0 Z = true := hw _ (List.mem_of_getElem? (i := 71) rfl)
theorem d10_8 : decode prog_21_method_19_code 8 = .ok (.getstatic 133, 3) := by decide +kernel
theorem w101 {Z : State} {a0 : Array Value} (hw : ∀ d ∈ tables_1, d.before a0 Z = true) : (Jvm.Cond.fieldLink "com/example/nudge/nudge/tree/Node" (133 : Nat) "com/example/nudge/nudge/tree/Node$Kind" "STRING" "Lcom/example/nudge/nudge/tree/Node$Kind;").before a0 Z = true := hw _ (List.mem_of_getElem? (i := 101) rfl)
theorem d10_11 : decode prog_21_method_19_code 11 = .ok (.if_acmp .ne 18, 3) := by decide +kernel
theorem d10_29 : decode prog_21_method_19_code 29 = .ok (.iconst 0, 1) := by decide +kernel
theorem d10_30 : decode prog_21_method_19_code 30 = .ok (.ireturn, 1) := by decide +kernel
theorem d10_14 : decode prog_21_method_19_code 14 = .ok (.aload_n 0, 1) := by decide +kernel
theorem d10_15 : decode prog_21_method_19_code 15 = .ok (.invokevirtual 136, 3) := by decide +kernel
theorem w78 {Z : State} {a0 : Array Value} (hw : ∀ d ∈ tables_1, d.before a0 Z = true) : (Jvm.Cond.code ({ cls := "com/example/nudge/nudge/tree/Node", name := "text", desc := "()Ljava/lang/String;" } : Jvm.MethodName) prog_21_method_4_code (1 : Nat) (Option.some (Jvm.ClassFile.FieldType.object "java/lang/String"))).before a0 Z = true := hw _ (List.mem_of_getElem? (i := 78) rfl)
theorem pd_4 : parseMethodDescriptor "()Ljava/lang/String;" = some ⟨[], some (.object "java/lang/String")⟩ := by decide +kernel
theorem w102 {Z : State} {a0 : Array Value} (hw : ∀ d ∈ tables_1, d.before a0 Z = true) : (Jvm.Cond.methodLink "com/example/nudge/nudge/tree/Node" (136 : Nat) ({ cls := "com/example/nudge/nudge/tree/Node", name := "text", desc := "()Ljava/lang/String;" } : Jvm.MethodName)).before a0 Z = true := hw _ (List.mem_of_getElem? (i := 102) rfl)
theorem w77 {Z : State} {a0 : Array Value} (hw : ∀ d ∈ tables_1, d.before a0 Z = true) : (Jvm.Cond.selects "com/example/nudge/nudge/tree/Node" ({ cls := "com/example/nudge/nudge/tree/Node", name := "text", desc := "()Ljava/lang/String;" } : Jvm.MethodName) ({ cls := "com/example/nudge/nudge/tree/Node", name := "text", desc := "()Ljava/lang/String;" } : Jvm.MethodName)).before a0 Z = true := hw _ (List.mem_of_getElem? (i := 77) rfl)
theorem w75 {Z : State} {a0 : Array Value} (hw : ∀ d ∈ tables_1, d.before a0 Z = true) : (Jvm.Cond.declares ({ cls := "com/example/nudge/nudge/tree/Node", name := "text", desc := "()Ljava/lang/String;" } : Jvm.MethodName)).before a0 Z = true := hw _ (List.mem_of_getElem? (i := 75) rfl)
theorem w76 {Z : State} {a0 : Array Value} (hw : ∀ d ∈ tables_1, d.before a0 Z = true) : (Jvm.Cond.instanceMethod ({ cls := "com/example/nudge/nudge/tree/Node", name := "text", desc := "()Ljava/lang/String;" } : Jvm.MethodName)).before a0 Z = true := hw _ (List.mem_of_getElem? (i := 76) rfl)
theorem d10_18 : decode prog_21_method_19_code 18 = .ok (.aload_n 1, 1) := by decide +kernel
theorem d10_19 : decode prog_21_method_19_code 19 = .ok (.invokevirtual 126, 3) := by decide +kernel
theorem w83 {Z : State} {a0 : Array Value} (hw : ∀ d ∈ tables_1, d.before a0 Z = true) : (Jvm.Cond.code ({ cls := "java/lang/String", name := "equals", desc := "(Ljava/lang/Object;)Z" } : Jvm.MethodName) jdk_42_method_66_code (3 : Nat) (Option.some Jvm.ClassFile.FieldType.boolean)).before a0 Z = true := hw _ (List.mem_of_getElem? (i := 83) rfl)
theorem pd_5 : parseMethodDescriptor "(Ljava/lang/Object;)Z" = some ⟨[(.object "java/lang/Object")], some .boolean⟩ := by decide +kernel
theorem w103 {Z : State} {a0 : Array Value} (hw : ∀ d ∈ tables_1, d.before a0 Z = true) : (Jvm.Cond.methodLink "com/example/nudge/nudge/tree/Node" (126 : Nat) ({ cls := "java/lang/String", name := "equals", desc := "(Ljava/lang/Object;)Z" } : Jvm.MethodName)).before a0 Z = true := hw _ (List.mem_of_getElem? (i := 103) rfl)
theorem w82 {Z : State} {a0 : Array Value} (hw : ∀ d ∈ tables_1, d.before a0 Z = true) : (Jvm.Cond.selects "java/lang/String" ({ cls := "java/lang/String", name := "equals", desc := "(Ljava/lang/Object;)Z" } : Jvm.MethodName) ({ cls := "java/lang/String", name := "equals", desc := "(Ljava/lang/Object;)Z" } : Jvm.MethodName)).before a0 Z = true := hw _ (List.mem_of_getElem? (i := 82) rfl)
theorem w80 {Z : State} {a0 : Array Value} (hw : ∀ d ∈ tables_1, d.before a0 Z = true) : (Jvm.Cond.declares ({ cls := "java/lang/String", name := "equals", desc := "(Ljava/lang/Object;)Z" } : Jvm.MethodName)).before a0 Z = true := hw _ (List.mem_of_getElem? (i := 80) rfl)
theorem w81 {Z : State} {a0 : Array Value} (hw : ∀ d ∈ tables_1, d.before a0 Z = true) : (Jvm.Cond.instanceMethod ({ cls := "java/lang/String", name := "equals", desc := "(Ljava/lang/Object;)Z" } : Jvm.MethodName)).before a0 Z = true := hw _ (List.mem_of_getElem? (i := 81) rfl)
theorem d10_22 : decode prog_21_method_19_code 22 = .ok (.ifCond .eq 7, 3) := by decide +kernel
theorem d10_25 : decode prog_21_method_19_code 25 = .ok (.iconst 1, 1) := by decide +kernel
theorem d10_26 : decode prog_21_method_19_code 26 = .ok (.goto 4, 3) := by decide +kernel
theorem d11_0 : decode prog_21_method_20_code 0 = .ok (.aload_n 0, 1) := by decide +kernel
theorem d11_1 : decode prog_21_method_20_code 1 = .ok (.ifnull 29, 3) := by decide +kernel
theorem d11_4 : decode prog_21_method_20_code 4 = .ok (.aload_n 0, 1) := by decide +kernel
theorem d11_5 : decode prog_21_method_20_code 5 = .ok (.invokevirtual 130, 3) := by decide +kernel
theorem d11_8 : decode prog_21_method_20_code 8 = .ok (.getstatic 139, 3) := by decide +kernel
theorem w107 {Z : State} {a0 : Array Value} (hw : ∀ d ∈ tables_1, d.before a0 Z = true) : (Jvm.Cond.fieldLink "com/example/nudge/nudge/tree/Node" (139 : Nat) "com/example/nudge/nudge/tree/Node$Kind" "BOOLEAN" "Lcom/example/nudge/nudge/tree/Node$Kind;").before a0 Z = true := hw _ (List.mem_of_getElem? (i := 107) rfl)
theorem d11_11 : decode prog_21_method_20_code 11 = .ok (.if_acmp .ne 19, 3) := by decide +kernel
theorem d11_30 : decode prog_21_method_20_code 30 = .ok (.iconst 0, 1) := by decide +kernel
theorem d11_31 : decode prog_21_method_20_code 31 = .ok (.ireturn, 1) := by decide +kernel
theorem d11_14 : decode prog_21_method_20_code 14 = .ok (.aload_n 0, 1) := by decide +kernel
theorem d11_15 : decode prog_21_method_20_code 15 = .ok (.invokevirtual 136, 3) := by decide +kernel
theorem d11_18 : decode prog_21_method_20_code 18 = .ok (.ldc 142, 2) := by decide +kernel
theorem d11_20 : decode prog_21_method_20_code 20 = .ok (.invokevirtual 126, 3) := by decide +kernel
theorem d11_23 : decode prog_21_method_20_code 23 = .ok (.ifCond .eq 7, 3) := by decide +kernel
theorem d11_26 : decode prog_21_method_20_code 26 = .ok (.iconst 1, 1) := by decide +kernel
theorem d11_27 : decode prog_21_method_20_code 27 = .ok (.goto 4, 3) := by decide +kernel
theorem d12_0 : decode jdk_29_method_69_code 0 = .ok (.iload_n 0, 1) := by decide +kernel
theorem d12_1 : decode jdk_29_method_69_code 1 = .ok (.iload_n 1, 1) := by decide +kernel
theorem d12_2 : decode jdk_29_method_69_code 2 = .ok (.if_icmp .gt 7, 3) := by decide +kernel
theorem d12_9 : decode jdk_29_method_69_code 9 = .ok (.iload_n 1, 1) := by decide +kernel
theorem d12_10 : decode jdk_29_method_69_code 10 = .ok (.ireturn, 1) := by decide +kernel
theorem d12_5 : decode jdk_29_method_69_code 5 = .ok (.iload_n 0, 1) := by decide +kernel
theorem d12_6 : decode jdk_29_method_69_code 6 = .ok (.goto 4, 3) := by decide +kernel
theorem pn_com_example_nudge_nudge_tree_NodeScalarPinLaw : plainName "com/example/nudge/nudge/tree/NodeScalarPinLaw" = true := by first | (simp [plainName, overriddenIn]; done) | decide +kernel
theorem w6 {Z : State} {a0 : Array Value} (hw : ∀ d ∈ tables_1, d.before a0 Z = true) : (Jvm.Cond.code ({ cls := "java/lang/Math", name := "min", desc := "(II)I" } : Jvm.MethodName) jdk_29_method_69_code (2 : Nat) (Option.some Jvm.ClassFile.FieldType.int)).before a0 Z = true := hw _ (List.mem_of_getElem? (i := 6) rfl)
theorem w5 {Z : State} {a0 : Array Value} (hw : ∀ d ∈ tables_1, d.before a0 Z = true) : (Jvm.Cond.initialized "java/lang/Math").before a0 Z = true := hw _ (List.mem_of_getElem? (i := 5) rfl)
theorem pd_6 : parseMethodDescriptor "(II)I" = some ⟨[.int, .int], some .int⟩ := by decide +kernel
theorem w3 {Z : State} {a0 : Array Value} (hw : ∀ d ∈ tables_1, d.before a0 Z = true) : (Jvm.Cond.methodLink "com/example/nudge/nudge/tree/NodeScalarPinLaw" (22 : Nat) ({ cls := "java/lang/Math", name := "min", desc := "(II)I" } : Jvm.MethodName)).before a0 Z = true := hw _ (List.mem_of_getElem? (i := 3) rfl)
theorem w4 {Z : State} {a0 : Array Value} (hw : ∀ d ∈ tables_1, d.before a0 Z = true) : (Jvm.Cond.static ({ cls := "java/lang/Math", name := "min", desc := "(II)I" } : Jvm.MethodName)).before a0 Z = true := hw _ (List.mem_of_getElem? (i := 4) rfl)
theorem w40 {Z : State} {a0 : Array Value} (hw : ∀ d ∈ tables_1, d.before a0 Z = true) : (Jvm.Cond.code ({ cls := "com/example/nudge/nudge/tree/Node", name := "scalar", desc := "(Lcom/example/nudge/nudge/tree/Node$Kind;Ljava/lang/String;)Lcom/example/nudge/nudge/tree/Node;" } : Jvm.MethodName) prog_21_method_2_code (2 : Nat) (Option.some (Jvm.ClassFile.FieldType.object "com/example/nudge/nudge/tree/Node"))).before a0 Z = true := hw _ (List.mem_of_getElem? (i := 40) rfl)
theorem pd_7 : parseMethodDescriptor "(Lcom/example/nudge/nudge/tree/Node$Kind;Ljava/lang/String;)Lcom/example/nudge/nudge/tree/Node;" = some ⟨[(.object "com/example/nudge/nudge/tree/Node$Kind"), (.object "java/lang/String")], some (.object "com/example/nudge/nudge/tree/Node")⟩ := by decide +kernel
theorem w37 {Z : State} {a0 : Array Value} (hw : ∀ d ∈ tables_1, d.before a0 Z = true) : (Jvm.Cond.methodLink "com/example/nudge/nudge/tree/NodeScalarPinLaw" (33 : Nat) ({ cls := "com/example/nudge/nudge/tree/Node", name := "scalar", desc := "(Lcom/example/nudge/nudge/tree/Node$Kind;Ljava/lang/String;)Lcom/example/nudge/nudge/tree/Node;" } : Jvm.MethodName)).before a0 Z = true := hw _ (List.mem_of_getElem? (i := 37) rfl)
theorem w38 {Z : State} {a0 : Array Value} (hw : ∀ d ∈ tables_1, d.before a0 Z = true) : (Jvm.Cond.static ({ cls := "com/example/nudge/nudge/tree/Node", name := "scalar", desc := "(Lcom/example/nudge/nudge/tree/Node$Kind;Ljava/lang/String;)Lcom/example/nudge/nudge/tree/Node;" } : Jvm.MethodName)).before a0 Z = true := hw _ (List.mem_of_getElem? (i := 38) rfl)
theorem w69 {Z : State} {a0 : Array Value} (hw : ∀ d ∈ tables_1, d.before a0 Z = true) : (Jvm.Cond.methodLink "com/example/nudge/nudge/tree/NodeScalarPinLaw" (39 : Nat) ({ cls := "com/example/nudge/nudge/tree/Node", name := "kind", desc := "()Lcom/example/nudge/nudge/tree/Node$Kind;" } : Jvm.MethodName)).before a0 Z = true := hw _ (List.mem_of_getElem? (i := 69) rfl)
theorem w74 {Z : State} {a0 : Array Value} (hw : ∀ d ∈ tables_1, d.before a0 Z = true) : (Jvm.Cond.methodLink "com/example/nudge/nudge/tree/NodeScalarPinLaw" (43 : Nat) ({ cls := "com/example/nudge/nudge/tree/Node", name := "text", desc := "()Ljava/lang/String;" } : Jvm.MethodName)).before a0 Z = true := hw _ (List.mem_of_getElem? (i := 74) rfl)
theorem w79 {Z : State} {a0 : Array Value} (hw : ∀ d ∈ tables_1, d.before a0 Z = true) : (Jvm.Cond.methodLink "com/example/nudge/nudge/tree/NodeScalarPinLaw" (47 : Nat) ({ cls := "java/lang/String", name := "equals", desc := "(Ljava/lang/Object;)Z" } : Jvm.MethodName)).before a0 Z = true := hw _ (List.mem_of_getElem? (i := 79) rfl)
theorem w88 {Z : State} {a0 : Array Value} (hw : ∀ d ∈ tables_1, d.before a0 Z = true) : (Jvm.Cond.code ({ cls := "com/example/nudge/nudge/tree/Node", name := "size", desc := "()I" } : Jvm.MethodName) prog_21_method_10_code (1 : Nat) (Option.some Jvm.ClassFile.FieldType.int)).before a0 Z = true := hw _ (List.mem_of_getElem? (i := 88) rfl)
theorem pd_8 : parseMethodDescriptor "()I" = some ⟨[], some .int⟩ := by decide +kernel
theorem w84 {Z : State} {a0 : Array Value} (hw : ∀ d ∈ tables_1, d.before a0 Z = true) : (Jvm.Cond.methodLink "com/example/nudge/nudge/tree/NodeScalarPinLaw" (51 : Nat) ({ cls := "com/example/nudge/nudge/tree/Node", name := "size", desc := "()I" } : Jvm.MethodName)).before a0 Z = true := hw _ (List.mem_of_getElem? (i := 84) rfl)
theorem w87 {Z : State} {a0 : Array Value} (hw : ∀ d ∈ tables_1, d.before a0 Z = true) : (Jvm.Cond.selects "com/example/nudge/nudge/tree/Node" ({ cls := "com/example/nudge/nudge/tree/Node", name := "size", desc := "()I" } : Jvm.MethodName) ({ cls := "com/example/nudge/nudge/tree/Node", name := "size", desc := "()I" } : Jvm.MethodName)).before a0 Z = true := hw _ (List.mem_of_getElem? (i := 87) rfl)
theorem w85 {Z : State} {a0 : Array Value} (hw : ∀ d ∈ tables_1, d.before a0 Z = true) : (Jvm.Cond.declares ({ cls := "com/example/nudge/nudge/tree/Node", name := "size", desc := "()I" } : Jvm.MethodName)).before a0 Z = true := hw _ (List.mem_of_getElem? (i := 85) rfl)
theorem w86 {Z : State} {a0 : Array Value} (hw : ∀ d ∈ tables_1, d.before a0 Z = true) : (Jvm.Cond.instanceMethod ({ cls := "com/example/nudge/nudge/tree/Node", name := "size", desc := "()I" } : Jvm.MethodName)).before a0 Z = true := hw _ (List.mem_of_getElem? (i := 86) rfl)
theorem w93 {Z : State} {a0 : Array Value} (hw : ∀ d ∈ tables_1, d.before a0 Z = true) : (Jvm.Cond.code ({ cls := "com/example/nudge/nudge/tree/Node", name := "get", desc := "(Ljava/lang/String;)Lcom/example/nudge/nudge/tree/Node;" } : Jvm.MethodName) prog_21_method_6_code (3 : Nat) (Option.some (Jvm.ClassFile.FieldType.object "com/example/nudge/nudge/tree/Node"))).before a0 Z = true := hw _ (List.mem_of_getElem? (i := 93) rfl)
theorem pd_9 : parseMethodDescriptor "(Ljava/lang/String;)Lcom/example/nudge/nudge/tree/Node;" = some ⟨[(.object "java/lang/String")], some (.object "com/example/nudge/nudge/tree/Node")⟩ := by decide +kernel
theorem w89 {Z : State} {a0 : Array Value} (hw : ∀ d ∈ tables_1, d.before a0 Z = true) : (Jvm.Cond.methodLink "com/example/nudge/nudge/tree/NodeScalarPinLaw" (55 : Nat) ({ cls := "com/example/nudge/nudge/tree/Node", name := "get", desc := "(Ljava/lang/String;)Lcom/example/nudge/nudge/tree/Node;" } : Jvm.MethodName)).before a0 Z = true := hw _ (List.mem_of_getElem? (i := 89) rfl)
theorem w92 {Z : State} {a0 : Array Value} (hw : ∀ d ∈ tables_1, d.before a0 Z = true) : (Jvm.Cond.selects "com/example/nudge/nudge/tree/Node" ({ cls := "com/example/nudge/nudge/tree/Node", name := "get", desc := "(Ljava/lang/String;)Lcom/example/nudge/nudge/tree/Node;" } : Jvm.MethodName) ({ cls := "com/example/nudge/nudge/tree/Node", name := "get", desc := "(Ljava/lang/String;)Lcom/example/nudge/nudge/tree/Node;" } : Jvm.MethodName)).before a0 Z = true := hw _ (List.mem_of_getElem? (i := 92) rfl)
theorem w90 {Z : State} {a0 : Array Value} (hw : ∀ d ∈ tables_1, d.before a0 Z = true) : (Jvm.Cond.declares ({ cls := "com/example/nudge/nudge/tree/Node", name := "get", desc := "(Ljava/lang/String;)Lcom/example/nudge/nudge/tree/Node;" } : Jvm.MethodName)).before a0 Z = true := hw _ (List.mem_of_getElem? (i := 90) rfl)
theorem w91 {Z : State} {a0 : Array Value} (hw : ∀ d ∈ tables_1, d.before a0 Z = true) : (Jvm.Cond.instanceMethod ({ cls := "com/example/nudge/nudge/tree/Node", name := "get", desc := "(Ljava/lang/String;)Lcom/example/nudge/nudge/tree/Node;" } : Jvm.MethodName)).before a0 Z = true := hw _ (List.mem_of_getElem? (i := 91) rfl)
theorem w99 {Z : State} {a0 : Array Value} (hw : ∀ d ∈ tables_1, d.before a0 Z = true) : (Jvm.Cond.code ({ cls := "com/example/nudge/nudge/tree/Node", name := "isString", desc := "(Lcom/example/nudge/nudge/tree/Node;Ljava/lang/String;)Z" } : Jvm.MethodName) prog_21_method_19_code (2 : Nat) (Option.some Jvm.ClassFile.FieldType.boolean)).before a0 Z = true := hw _ (List.mem_of_getElem? (i := 99) rfl)
theorem pd_10 : parseMethodDescriptor "(Lcom/example/nudge/nudge/tree/Node;Ljava/lang/String;)Z" = some ⟨[(.object "com/example/nudge/nudge/tree/Node"), (.object "java/lang/String")], some .boolean⟩ := by decide +kernel
theorem w97 {Z : State} {a0 : Array Value} (hw : ∀ d ∈ tables_1, d.before a0 Z = true) : (Jvm.Cond.methodLink "com/example/nudge/nudge/tree/NodeScalarPinLaw" (59 : Nat) ({ cls := "com/example/nudge/nudge/tree/Node", name := "isString", desc := "(Lcom/example/nudge/nudge/tree/Node;Ljava/lang/String;)Z" } : Jvm.MethodName)).before a0 Z = true := hw _ (List.mem_of_getElem? (i := 97) rfl)
theorem w98 {Z : State} {a0 : Array Value} (hw : ∀ d ∈ tables_1, d.before a0 Z = true) : (Jvm.Cond.static ({ cls := "com/example/nudge/nudge/tree/Node", name := "isString", desc := "(Lcom/example/nudge/nudge/tree/Node;Ljava/lang/String;)Z" } : Jvm.MethodName)).before a0 Z = true := hw _ (List.mem_of_getElem? (i := 98) rfl)
theorem w106 {Z : State} {a0 : Array Value} (hw : ∀ d ∈ tables_1, d.before a0 Z = true) : (Jvm.Cond.code ({ cls := "com/example/nudge/nudge/tree/Node", name := "isTrue", desc := "(Lcom/example/nudge/nudge/tree/Node;)Z" } : Jvm.MethodName) prog_21_method_20_code (1 : Nat) (Option.some Jvm.ClassFile.FieldType.boolean)).before a0 Z = true := hw _ (List.mem_of_getElem? (i := 106) rfl)
theorem pd_11 : parseMethodDescriptor "(Lcom/example/nudge/nudge/tree/Node;)Z" = some ⟨[(.object "com/example/nudge/nudge/tree/Node")], some .boolean⟩ := by decide +kernel
theorem w104 {Z : State} {a0 : Array Value} (hw : ∀ d ∈ tables_1, d.before a0 Z = true) : (Jvm.Cond.methodLink "com/example/nudge/nudge/tree/NodeScalarPinLaw" (63 : Nat) ({ cls := "com/example/nudge/nudge/tree/Node", name := "isTrue", desc := "(Lcom/example/nudge/nudge/tree/Node;)Z" } : Jvm.MethodName)).before a0 Z = true := hw _ (List.mem_of_getElem? (i := 104) rfl)
theorem w105 {Z : State} {a0 : Array Value} (hw : ∀ d ∈ tables_1, d.before a0 Z = true) : (Jvm.Cond.static ({ cls := "com/example/nudge/nudge/tree/Node", name := "isTrue", desc := "(Lcom/example/nudge/nudge/tree/Node;)Z" } : Jvm.MethodName)).before a0 Z = true := hw _ (List.mem_of_getElem? (i := 105) rfl)
theorem w7 {Z : State} {a0 : Array Value} (hw : ∀ d ∈ tables_1, d.before a0 Z = true) : (Jvm.Cond.arrayClass Jvm.ClassFile.FieldType.char).before a0 Z = true := hw _ (List.mem_of_getElem? (i := 7) rfl)
theorem w8 {Z : State} {a0 : Array Value} (hw : ∀ d ∈ tables_1, d.before a0 Z = true) : (Jvm.Cond.classLink "com/example/nudge/nudge/tree/NodeScalarPinLaw" (28 : Nat) "java/lang/String").before a0 Z = true := hw _ (List.mem_of_getElem? (i := 8) rfl)
theorem w13 {Z : State} {a0 : Array Value} (hw : ∀ d ∈ tables_1, d.before a0 Z = true) : (Jvm.Cond.code ({ cls := "java/lang/String", name := "<init>", desc := "([C)V" } : Jvm.MethodName) jdk_42_method_3_code (2 : Nat) (Option.none : Option Jvm.ClassFile.FieldType)).before a0 Z = true := hw _ (List.mem_of_getElem? (i := 13) rfl)
theorem pd_12 : parseMethodDescriptor "([C)V" = some ⟨[(.array .char)], none⟩ := by decide +kernel
theorem w11 {Z : State} {a0 : Array Value} (hw : ∀ d ∈ tables_1, d.before a0 Z = true) : (Jvm.Cond.methodLink "com/example/nudge/nudge/tree/NodeScalarPinLaw" (30 : Nat) ({ cls := "java/lang/String", name := "<init>", desc := "([C)V" } : Jvm.MethodName)).before a0 Z = true := hw _ (List.mem_of_getElem? (i := 11) rfl)
theorem w12 {Z : State} {a0 : Array Value} (hw : ∀ d ∈ tables_1, d.before a0 Z = true) : (Jvm.Cond.instanceMethod ({ cls := "java/lang/String", name := "<init>", desc := "([C)V" } : Jvm.MethodName)).before a0 Z = true := hw _ (List.mem_of_getElem? (i := 12) rfl)
theorem w0 {Z : State} {a0 : Array Value} (hw : ∀ d ∈ tables_1, d.before a0 Z = true) : (Jvm.Cond.fieldLink "com/example/nudge/nudge/tree/NodeScalarPinLaw" (7 : Nat) "com/example/nudge/nudge/tree/Node$Kind" "STRING" "Lcom/example/nudge/nudge/tree/Node$Kind;").before a0 Z = true := hw _ (List.mem_of_getElem? (i := 0) rfl)
theorem w109 {Z : State} {a0 : Array Value} (hw : ∀ d ∈ tables_1, d.before a0 Z = true) : (Jvm.Cond.fieldLink "com/example/nudge/nudge/tree/NodeScalarPinLaw" (13 : Nat) "com/example/nudge/nudge/tree/Node$Kind" "NUMBER" "Lcom/example/nudge/nudge/tree/Node$Kind;").before a0 Z = true := hw _ (List.mem_of_getElem? (i := 109) rfl)
theorem w113 {Z : State} {a0 : Array Value} (hw : ∀ d ∈ tables_1, d.before a0 Z = true) : (Jvm.Cond.fieldLink "com/example/nudge/nudge/tree/NodeScalarPinLaw" (16 : Nat) "com/example/nudge/nudge/tree/Node$Kind" "BOOLEAN" "Lcom/example/nudge/nudge/tree/Node$Kind;").before a0 Z = true := hw _ (List.mem_of_getElem? (i := 113) rfl)
theorem w111 {Z : State} {a0 : Array Value} (hw : ∀ d ∈ tables_1, d.before a0 Z = true) : (Jvm.Cond.fieldLink "com/example/nudge/nudge/tree/NodeScalarPinLaw" (19 : Nat) "com/example/nudge/nudge/tree/Node$Kind" "NULL" "Lcom/example/nudge/nudge/tree/Node$Kind;").before a0 Z = true := hw _ (List.mem_of_getElem? (i := 111) rfl)
theorem w1 {Z : State} {a0 : Array Value} (hw : ∀ d ∈ tables_1, d.before a0 Z = true) : (Jvm.Cond.initialized "com/example/nudge/nudge/tree/Node$Kind").before a0 Z = true := hw _ (List.mem_of_getElem? (i := 1) rfl)
theorem w2 {Z : State} {a0 : Array Value} (hw : ∀ d ∈ tables_1, d.before a0 Z = true) : (Jvm.Cond.laysStatic "com/example/nudge/nudge/tree/Node$Kind" "STRING" "Lcom/example/nudge/nudge/tree/Node$Kind;").before a0 Z = true := hw _ (List.mem_of_getElem? (i := 2) rfl)
theorem w42 {Z : State} {a0 : Array Value} (hw : ∀ d ∈ tables_1, d.before a0 Z = true) : (Jvm.Cond.laysStatic "com/example/nudge/nudge/tree/Node$Kind" "OBJECT" "Lcom/example/nudge/nudge/tree/Node$Kind;").before a0 Z = true := hw _ (List.mem_of_getElem? (i := 42) rfl)
theorem w44 {Z : State} {a0 : Array Value} (hw : ∀ d ∈ tables_1, d.before a0 Z = true) : (Jvm.Cond.laysStatic "com/example/nudge/nudge/tree/Node$Kind" "ARRAY" "Lcom/example/nudge/nudge/tree/Node$Kind;").before a0 Z = true := hw _ (List.mem_of_getElem? (i := 44) rfl)
theorem w48 {Z : State} {a0 : Array Value} (hw : ∀ d ∈ tables_1, d.before a0 Z = true) : (Jvm.Cond.laysStatic "com/example/nudge/nudge/tree/Node" "NO_NAMES" "[Ljava/lang/String;").before a0 Z = true := hw _ (List.mem_of_getElem? (i := 48) rfl)
theorem w50 {Z : State} {a0 : Array Value} (hw : ∀ d ∈ tables_1, d.before a0 Z = true) : (Jvm.Cond.laysStatic "com/example/nudge/nudge/tree/Node" "NO_VALUES" "[Lcom/example/nudge/nudge/tree/Node;").before a0 Z = true := hw _ (List.mem_of_getElem? (i := 50) rfl)
theorem w52 {Z : State} {a0 : Array Value} (hw : ∀ d ∈ tables_1, d.before a0 Z = true) : (Jvm.Cond.laysStatic "com/example/nudge/nudge/tree/Node" "NO_PLACES" "[I").before a0 Z = true := hw _ (List.mem_of_getElem? (i := 52) rfl)
theorem w108 {Z : State} {a0 : Array Value} (hw : ∀ d ∈ tables_1, d.before a0 Z = true) : (Jvm.Cond.laysStatic "com/example/nudge/nudge/tree/Node$Kind" "BOOLEAN" "Lcom/example/nudge/nudge/tree/Node$Kind;").before a0 Z = true := hw _ (List.mem_of_getElem? (i := 108) rfl)
theorem w110 {Z : State} {a0 : Array Value} (hw : ∀ d ∈ tables_1, d.before a0 Z = true) : (Jvm.Cond.laysStatic "com/example/nudge/nudge/tree/Node$Kind" "NUMBER" "Lcom/example/nudge/nudge/tree/Node$Kind;").before a0 Z = true := hw _ (List.mem_of_getElem? (i := 110) rfl)
theorem w112 {Z : State} {a0 : Array Value} (hw : ∀ d ∈ tables_1, d.before a0 Z = true) : (Jvm.Cond.laysStatic "com/example/nudge/nudge/tree/Node$Kind" "NULL" "Lcom/example/nudge/nudge/tree/Node$Kind;").before a0 Z = true := hw _ (List.mem_of_getElem? (i := 112) rfl)
theorem w26 {Z : State} {a0 : Array Value} (hw : ∀ d ∈ tables_1, d.before a0 Z = true) : (Jvm.Cond.arrayClass Jvm.ClassFile.FieldType.byte).before a0 Z = true := hw _ (List.mem_of_getElem? (i := 26) rfl)
theorem and255_chars (x : Int32) : ¬ nar .char ((x &&& (255 : Int32)).toUInt32.toUInt16.toUInt32.toInt32) < 0 ∧ ¬ (255 : Int32) < nar .char ((x &&& (255 : Int32)).toUInt32.toUInt16.toUInt32.toInt32) := by
  have t : ∀ k : Fin 256, ¬ nar .char ((Int32.ofNat k.val).toUInt32.toUInt16.toUInt32.toInt32) < 0 ∧ ¬ (255 : Int32) < nar .char ((Int32.ofNat k.val).toUInt32.toUInt16.toUInt32.toInt32) := by decide +kernel
  have h : (x &&& 255).toBitVec.toNat < 256 := by
    simp only [Int32.toBitVec_and, BitVec.toNat_and]
    exact Nat.lt_succ_of_le Nat.and_le_right
  have e : (x &&& 255) = Int32.ofNat (x &&& 255).toBitVec.toNat := by
    apply Int32.toBitVec_inj.mp
    show _ = BitVec.ofNat 32 _
    rw [BitVec.ofNat_toNat]; simp
  rw [e]
  exact t ⟨_, h⟩
theorem chars_nil : ∀ c ∈ ([] : List Int32), ¬ c < 0 ∧ ¬ (255 : Int32) < c := fun _ h => nomatch h
theorem chars_cons {c : Int32} {L : List Int32} (h : ¬ c < 0 ∧ ¬ (255 : Int32) < c) (r : ∀ c ∈ L, ¬ c < 0 ∧ ¬ (255 : Int32) < c) : ∀ d ∈ c :: L, ¬ d < 0 ∧ ¬ (255 : Int32) < d := fun d q => (List.mem_cons.mp q).elim (fun u => u ▸ h) (r d)
theorem words_in (hs : ∀ d ∈ StrChars.Road.words, d ∈ tables_1) {Z : State} {a0 : Array Value} (hw : ∀ d ∈ tables_1, d.before a0 Z = true) : ∀ d ∈ StrChars.Road.words, d.before a0 Z = true := fun d hd => hw d (hs d hd)
theorem str_words : ∀ d ∈ StrChars.Road.words, d ∈ tables_1 := by decide +kernel
/-- a String whose chars are cs: its object, its byte[] -/
def Str (Z : State) (h : Heap) (a t : Addr) (cs : List Int32) : Prop := Exa Z h a "java/lang/String" ∧ ∃ (cd N2 : Int32) (kb : ClassId) (vs : List Value), Fld Z h a "java/lang/String" "value" "[B" (.ref t) ∧ Fld Z h a "java/lang/String" "coder" "B" (.int cd) ∧ Arv Z h t kb .byte N2 vs (.int 0) ∧ StrChars.Road.CodA cs cd N2 vs ∧ (∀ c ∈ cs, ¬ c < 0 ∧ ¬ (65535 : Int32) < c) ∧ cs.length ≤ 4000
theorem Str.ext {Z : State} {h h' : Heap} {a t : Addr} {cs : List Int32} (F : Str Z h a t cs) (E : Ext h h') : Str Z h' a t cs := by
  obtain ⟨x, cd, N2, kb, vs, V, C, K, r⟩ := F; exact ⟨x.ext E, cd, N2, kb, vs, V.ext E, C.ext E, K.ext E, r⟩
theorem Str.keep {Z : State} {h h' : Heap} {a t : Addr} {cs : List Int32} {ws : List Addr} (F : Str Z h a t cs) (E : Keep h h' ws) (q1 : a ∉ ws) (q2 : t ∉ ws) : Str Z h' a t cs := by
  obtain ⟨x, cd, N2, kb, vs, V, C, K, r⟩ := F; exact ⟨x.keep E, cd, N2, kb, vs, V.keep E q1, C.keep E q1, K.keep E q2, r⟩
theorem Str.wr {Z : State} {h h' : Heap} {a t b : Addr} {cs : List Int32} {sl : Nat} {v : Value} (F : Str Z h a t cs) (W : Wr h h' b sl v) (q1 : a ≠ b) (q2 : t ≠ b) : Str Z h' a t cs := by
  obtain ⟨x, cd, N2, kb, vs, V, C, K, r⟩ := F; exact ⟨x.wr W, cd, N2, kb, vs, V.other W (Or.inl q1), C.other W (Or.inl q1), K.other W q2, r⟩
theorem Str.keepC {Z : State} {h h' : Heap} {a t b : Addr} {cs : List Int32} {C : String} {k : Nat} {a0 : Array Value} (F : Str Z h a t cs) (K : Keep h h' [b]) (E : Exa Z h b C) (wi : (Jvm.Cond.instantiable C k).before a0 Z = true) (hC : C ≠ "java/lang/String") : Str Z h' a t cs := by
  refine F.keep K (ninS (ne_exa F.1 E (Ne.symm hC)) nin0) (ninS ?_ nin0)
  obtain ⟨-, cd, N2, kb, vs, -, -, ⟨cl, Ar, -⟩, -⟩ := F
  exact Ne.symm (ne_arr E wi Ar)
theorem Str.lt {Z : State} {h : Heap} {a t : Addr} {cs : List Int32} (F : Str Z h a t cs) : a < h.size := F.1.lt
theorem Str.ltT {Z : State} {h : Heap} {a t : Addr} {cs : List Int32} (F : Str Z h a t cs) : t < h.size := by obtain ⟨-, cd, N2, kb, vs, -, -, K, -⟩ := F; exact K.lt
theorem chars_up {cs : List Int32} (h : ∀ c ∈ cs, ¬ c < 0 ∧ ¬ (255 : Int32) < c) : ∀ c ∈ cs, ¬ c < 0 ∧ ¬ (65535 : Int32) < c := fun c hc => ⟨(h c hc).1, fun q => (h c hc).2 (by rw [Int32.lt_iff_toInt_lt] at q ⊢; have e1 : (65535 : Int32).toInt = 65535 := rfl; have e2 : (255 : Int32).toInt = 255 := rfl; omega)⟩
theorem Str.of {Z : State} {h : Heap} {a t : Addr} {kb : ClassId} {cs : List Int32} {n : Nat} (E : Exa Z h a "java/lang/String") (V : Fld Z h a "java/lang/String" "value" "[B" (.ref t)) (C : Fld Z h a "java/lang/String" "coder" "B" (.int 0)) (K : Arv Z h t kb .byte (Int32.ofNat n) ((cs.map (fun c => c.toInt8.toInt32)).map Value.int) (.int 0))
    (hn : cs.length = n) (hl : n ≤ 4000) (hp : ∀ c ∈ cs, ¬ c < 0 ∧ ¬ (255 : Int32) < c) : Str Z h a t cs :=
  ⟨E, 0, _, kb, _, V, C, K, StrChars.Road.codOf hn (fun c hc => (hp c hc).2), chars_up hp, hn ▸ hl⟩
theorem eq_words : ∀ d ∈ StrChars.Road.wordsEq, d ∈ tables_1 := by decide +kernel
theorem eqS {p : Program} {l : Launch} {e : Env} {R : Room} {s : State} {args : Array Value} {below : List Frame} {len W : Nat} {Z : State} {a0 : Array Value} {h : Heap} (hZ : Z.Warmed39 s.vm) (hw : ∀ d ∈ tables_1, d.before a0 Z = true) {kI : Nat} (wi : (Jvm.Cond.instantiable "java/lang/String" kI).before a0 Z = true)
    {x t y t' : Addr} {cs ds : List Int32} (F : Str Z h x t cs) (G : Str Z h y t' ds) {z : Int32} (S : Sta Z h "java/lang/String" "COMPACT_STRINGS" "Z" (.int z)) (hz : ¬ z = 0) (hfr : 2 ≤ R.frames) (hlo : W + 28 ≤ R.locals) :
    Back l R p e below s args (⟨"java/lang/String", "equals", "(Ljava/lang/Object;)Z"⟩ : MethodName) len W (fun P a => a = #[.ref x, .ref y] ∧ P.U.heap = h ∧ P.cells + 0 ≤ R.cells ∧ P.slots + 0 ≤ R.slots)
      (fun P _ v B => ∃ L, (((v = some (.int 1) ∧ cs = ds) ∨ (v = some (.int 0) ∧ ¬ cs = ds)) ∧ L = [] ∧ B.U.heap = h) ∧ B.locs = P.locs ++ L ∧ B.cells = P.cells + 0 ∧ B.slots = P.slots + 0) := by
  obtain ⟨E, cd, N2, kb, vs, V, C, K, hc, hb, l2⟩ := F
  obtain ⟨E', cd', N2', kb', vs', V', C', K', hc', hb', l2'⟩ := G
  exact StrChars.Road.eqW hZ (fun d hd => hw d (eq_words d hd)) wi E V C K hc hb l2 E' V' C' K' hc' hb' l2' S hz hfr hlo
theorem and3 (x : Int32) : x &&& (3 : Int32) = 0 ∨ x &&& (3 : Int32) = 1 ∨ x &&& (3 : Int32) = 2 ∨ x &&& (3 : Int32) = 3 := by
  have h := c_and x 3 (by decide); have h3 : (3 : Int32).toInt = 3 := rfl
  have e : x &&& 3 = Int32.ofInt (x &&& 3).toInt := (Int32.ofInt_toInt _).symm
  have : (x &&& 3).toInt = 0 ∨ (x &&& 3).toInt = 1 ∨ (x &&& 3).toInt = 2 ∨ (x &&& 3).toInt = 3 := by omega
  rcases this with q | q | q | q <;> rw [q] at e
  · exact Or.inl e
  · exact Or.inr (Or.inl e)
  · exact Or.inr (Or.inr (Or.inl e))
  · exact Or.inr (Or.inr (Or.inr e))
theorem and3_3 {x : Int32} (h0 : ¬ x &&& (3 : Int32) = 0) (h1 : ¬ x &&& (3 : Int32) = 1) (h2 : ¬ x &&& (3 : Int32) = 2) : x &&& (3 : Int32) = 3 := by
  rcases and3 x with q | q | q | q
  · exact absurd q h0
  · exact absurd q h1
  · exact absurd q h2
  · exact q

theorem hEL {Z : State} {a0 : Array Value} (hw : ∀ d ∈ tables_1, d.before a0 Z = true) : EW Z a0 consts_1 := (EW.cons (w114 hw) (by decide) (EW.cons (w122 hw) (by decide) (EW.cons (w123 hw) (by decide) EW.nil)))
theorem str_atoms {Z : State} {a0 : Array Value} (hw : ∀ d ∈ tables_1, d.before a0 Z = true) : ∀ a ∈ Bundle.stringAtoms, a.before a0 Z = true := fun d hd => hw d ((by decide +kernel : ∀ d ∈ Bundle.stringAtoms, d ∈ tables_1) d hd)
/-- a String under construction (its value is still null) isn't a booked one -/
theorem safe_null {Z : State} {EL : List (String × Nat)} {vm : Vm} {h : Heap} {x : Addr} {a0 : Array Value} {kI : Nat} (hal : Z.vm.Alike vm) (wi : (Jvm.Cond.instantiable "java/lang/String" kI).before a0 Z = true) (E : Exa Z h x "java/lang/String") (F : Fld Z h x "java/lang/String" "value" "[B" .null) : Safe Z EL vm h x := by
  rintro ⟨p, -, u, a, -, q, -, ⟨cS, ⟨⟨s1, -, -, ⟨cv, kv, iv, s4, -⟩, -, -, -, s8, -, s10, s11, -⟩, -⟩, -⟩, rfl | rfl⟩
  · obtain ⟨cell, cf, k, i, f, h1, h2, -, -, -, -, h7⟩ := F
    cases (show h[q.sa]? = some q.sC from s1).symm.trans h1
    obtain ⟨k', z4⟩ := ff_back (Z := Z) (U := Wst Z vm h) hal s4
    have z5 : Z.fieldFound? "java/lang/String" "value" "[B" = some (cv, k', iv, q.fSV) := z4
    rw [z5] at h2; cases h2
    rw [s8] at h7; cases h7
  · obtain ⟨cell, k, h1, h2, h3, -, -⟩ := E
    cases (show h[q.sd]? = some q.SA from s10).symm.trans h1
    obtain ⟨c2, k2, i1, i2, i3, -⟩ := Cond.instantiable_spec wi
    cases h2.symm.trans i1
    obtain ⟨-, k9, hk9, comp, hkind⟩ := s11
    obtain ⟨k', hk', ek⟩ := hal.2.2 _ _ i2
    cases (show vm.classes[q.SA.cls]? = some k9 from hk9).symm.trans hk'
    rw [ek] at hkind
    exact absurd (i3.symm.trans hkind) (by simp)

def Q_strE4 (Z : State) (a1 : Addr) (ac : Addr) (kc : ClassId) (h0 : Heap) (n0 : Nat) (vR : Option Value) (h : Heap) (L : List Loc) : Prop := ∃ (t : Addr) (kb : ClassId), vR = none ∧ Fr n0 L ∧ Keep h0 h [a1] ∧ (Exa Z h a1 "java/lang/String") ∧ (Fld Z h a1 "java/lang/String" "value" "[B" (.ref t)) ∧ (Fld Z h a1 "java/lang/String" "coder" "B" (.int 0)) ∧ (Arv Z h t kb .byte (0 : Int32) [] (.int 0))
theorem ef_strE4 (m : MethodId) (x0 : Addr) (x1 : Addr) (x2 : Int32) (x3 : Int32) : entryFrame m #[(.ref x0), (.ref x1), (.int x2), (.int x3), .null] 6 = mkF m 0 #[.val (.ref x0), .val (.ref x1), .val (.int x2), .val (.int x3), .val .null, .unset] [] := by first | (simp [entryFrame, mkF, argsToLocals, Value.category]; done) | rfl
set_option maxRecDepth 65536 in
set_option maxHeartbeats 40000000 in
theorem rm_strE4 (l : Launch) (Z : State) (a0 : Array Value) (hw : ∀ d ∈ tables_1, d.before a0 Z = true) (ws : List Jvm.Cond) (a1 : Addr) (ac : Addr) (kc : ClassId) (h0 : Heap) (n0 : Nat) (Z0 : n0 ≤ h0.size) (H0 : Exa Z h0 a1 "java/lang/String") (H1 : Fld Z h0 a1 "java/lang/String" "value" "[B" .null) (H2 : Fld Z h0 a1 "java/lang/String" "coder" "B" (.int 0)) (H3 : Arv Z h0 ac kc .char (0 : Int32) [] (.int (0 : Int32))) (g_a1 : n0 ≤ a1) (ne_a1_ac : a1 ≠ ac) :
    MetFree l (⟨"java/lang/String", "<init>", "([CIILjava/lang/Void;)V"⟩ : MethodName) (head1 (Jvm.Cond.code (⟨"java/lang/String", "<init>", "([CIILjava/lang/Void;)V"⟩ : MethodName) jdk_42_method_149_code 6 none :: ws) ({ frames := 1, cells := 4, slots := 8, locals := 12 } : Room)) (fun a U => a = #[(.ref a1), (.ref ac), (.int 0), (.int 0), .null] ∧ Z.Warmed39 U.vm ∧ U.heap = h0 ∧ CHv Z consts_1 U.vm h0) (fun _ _ _ _ _ => True) (fun _ U o U' => ∃ v L, o = .returned v ∧ Q_strE4 Z a1 ac kc h0 n0 v U'.heap L ∧ CHr Z consts_1 U.vm U.heap U'.vm U'.heap ∧ ReturnedEndW U o U' L ({ frames := 1, cells := 4, slots := 8, locals := 12 } : Room).cells ({ frames := 1, cells := 4, slots := 8, locals := 12 } : Room).slots) := by
  refine MetFree.of_bodySF (plainFor_of_name pn_java_lang_String) hisR ?_
  intro p e s m args below meth c s₁ Bd hml0 hP hK
  obtain ⟨rfl, hZs, hh, HC0⟩ := hP
  have hx := Bd.exec
  have hby := Bd.bytes
  have hml : c.maxLocals = 6 := hml0
  have hZ : Z.Warmed39 (s.setVm s.vm).vm := hZs
  have hown : (s.setVm s.vm).vm.findClass "java/lang/String" = some m.cls := findClass_of_methodNamed Bd.named
  have hnm := (name_of_methodNamed Bd.named Bd.method).1
  have X0 : Stand p l e ({ frames := 1, cells := 4, slots := 8, locals := 12 } : Room) (s.setVm s.vm) m #[(.ref a1), (.ref ac), (.int 0), (.int 0), .null] below meth c s₁ [] 0 0 := Stand.of_body Bd
  have e0 : s₁.heap = h0 := by rw [← hh, Bd.state]; rfl
  have N0 := Fr.nil n0
  have hS0 : s.Since s.vm s.heap.size := (State.WarmedH.refl s).since _
  have hk0 : s.heap.size ≤ h0.size := Nat.le_of_eq (congrArg Array.size hh)
  have C0 : CHr Z consts_1 s.vm h0 s.vm h0 := CHr.refl HC0
  refine go_st (fun t k => castTop (ef_strE4 m a1 ac (0 : Int32) (0 : Int32)) k) ?_
  show Go _ _ _ _ (s₁.setTop (mkF m 0 #[rv a1, rv ac, iv 0, iv 0, .val .null, .unset] []))
  have sfa : Safe Z consts_1 s.vm h0 a1 := safe_null hZ.alike (w9 hw) H0 H1
  refine go_st (fun t k => XS.aloadN X0.here hx rfl (hb hby d0_0) rfl rfl k) ?_
  show Go _ _ _ _ (s₁.setTop (mkF m 1 #[rv a1, rv ac, iv 0, iv 0, .val .null, .unset] [(.ref a1)]))
  obtain ⟨T1, X1, e1, st1⟩ := initO X0 hx hZ hown (w18 hw) (w19 hw) (w20 hw) e0 (g := (mkF m 1 #[rv a1, rv ac, iv 0, iv 0, .val .null, .unset] [(.ref a1)])) rfl (by rw [hml]; rfl) rfl (hb hby d0_1) (by decide) (W := 0) (by show 2 * 0 + _ ≤ _; exact Nat.le_of_eq rfl) (by decide)
  refine go_st (fun t k => st1 t k) ?_
  show Go _ _ _ _ (T1.setTop (mkF m 4 #[rv a1, rv ac, iv 0, iv 0, .val .null, .unset] []))
  refine go_st (fun t k => XS.iloadN X1.here hx rfl (hb hby d0_4) rfl k) ?_
  show Go _ _ _ _ (T1.setTop (mkF m 5 #[rv a1, rv ac, iv 0, iv 0, .val .null, .unset] [(.int 0)]))
  refine go_st (fun t k => XS.ifNo X1.here hx rfl (hb hby d0_5) rfl ((if0 _ _).trans (teq ((by decide) : (0 : Int32) = (0 : Int32))).2) k) ?_
  show Go _ _ _ _ (T1.setTop (mkF m 8 #[rv a1, rv ac, iv 0, iv 0, .val .null, .unset] []))
  refine go_st (fun t k => XS.aloadN X1.here hx rfl (hb hby d0_8) rfl rfl k) ?_
  show Go _ _ _ _ (T1.setTop (mkF m 9 #[rv a1, rv ac, iv 0, iv 0, .val .null, .unset] [(.ref a1)]))
  obtain ⟨li2, T2, h2, kk2, t2, kb2, X2, e2, E2, hS2, hk2, hZ2, hown2, Es2, Cs2, Vs2, As2, lla2, llt2, hC2, -, hne2, st2⟩ := ldcCH (vm0 := s.vm) X1 hx hZ hown (w123 hw) (str_atoms hw) e1 hS0 (Nat.le_trans hk0 (Nat.le_refl _)) (hEL hw) (List.mem_of_getElem? (i := 2) rfl) C0.1 (vs := []) (z := (0 : Int32)) (by decide) (by decide) (by decide) (g := (mkF m 9 #[rv a1, rv ac, iv 0, iv 0, .val .null, .unset] [(.ref a1)])) rfl (hb hby d0_9) (n := 0) (by decide) (by decide) (by decide) (by decide)
  have C3 : CHr Z consts_1 s.vm h0 T2.vm h2 := CHr.trans C0 hC2
  have sf4 : Safe Z consts_1 T2.vm h2 a1 := (CHr.safe hC2 H0.lt sfa)
  refine go_st (fun t k => st2 t k) ?_
  show Go _ _ _ _ (T2.setTop (mkF m 11 #[rv a1, rv ac, iv 0, iv 0, .val .null, .unset] [(.ref li2), (.ref a1)]))
  obtain ⟨T5, X5, e5, st5⟩ := getF X2 hx hZ2 hown2 (host := "") (Or.inl (w35 hw)) Via.refl e2 Vs2 (g := (mkF m 11 #[rv a1, rv ac, iv 0, iv 0, .val .null, .unset] [(.ref li2), (.ref a1)])) rfl rfl (hb hby d0_11)
  refine go_st (fun t k => st5 t k) ?_
  show Go _ _ _ _ (T5.setTop (mkF m 14 #[rv a1, rv ac, iv 0, iv 0, .val .null, .unset] [(.ref t2), (.ref a1)]))
  have f6 : Fld Z h2 a1 "java/lang/String" "value" "[B" .null := (H1.ext E2)
  have f7 : Exa Z h2 a1 "java/lang/String" := (H0.ext E2)
  obtain ⟨T8, h8, X8, e8, W8, st8⟩ := putF X5 hx hZ2 hown2 (host := "") (Or.inl (w35 hw)) Via.refl e5 f6 f7 (Or.inr ⟨(w36 hw), rfl, hnm⟩) (w9 hw) (ty := (.array .byte)) (by decide) rfl rfl (g := (mkF m 14 #[rv a1, rv ac, iv 0, iv 0, .val .null, .unset] [(.ref t2), (.ref a1)])) rfl rfl (hb hby d0_14)
  have N8 := Fr.snoc X8 N0 g_a1
  have C9 : CHr Z consts_1 s.vm h0 T2.vm h8 := CHr.trans C3 (CHr.wr W8 sf4 C3.1)
  have sf10 : Safe Z consts_1 T2.vm h8 a1 := (Safe.wr W8 sf4 C3.1 sf4)
  have f11 : Fld Z h8 a1 "java/lang/String" "value" "[B" (.ref t2) := f6.same W8
  refine go_st (fun t k => st8 t k) ?_
  show Go _ _ _ _ (T8.setTop (mkF m 17 #[rv a1, rv ac, iv 0, iv 0, .val .null, .unset] []))
  refine go_st (fun t k => XS.aloadN X8.here hx rfl (hb hby d0_17) rfl rfl k) ?_
  show Go _ _ _ _ (T8.setTop (mkF m 18 #[rv a1, rv ac, iv 0, iv 0, .val .null, .unset] [(.ref a1)]))
  obtain ⟨li12, T12, h12, kk12, t12, kb12, X12, e12, E12, hS12, hk12, hZ12, hown12, Es12, Cs12, Vs12, As12, lla12, llt12, hC12, -, hne12, st12⟩ := ldcCH (vm0 := T2.vm) X8 hx hZ2 hown2 (w123 hw) (str_atoms hw) e8 hS2 (Nat.le_trans hk2 (Nat.le_of_eq W8.size.symm)) (hEL hw) (List.mem_of_getElem? (i := 2) rfl) C9.1 (vs := []) (z := (0 : Int32)) (by decide) (by decide) (by decide) (g := (mkF m 18 #[rv a1, rv ac, iv 0, iv 0, .val .null, .unset] [(.ref a1)])) rfl (hb hby d0_18) (n := 0) (by decide) (by decide) (by decide) (by decide)
  have f13 : Exa Z h8 a1 "java/lang/String" := (f7.wr W8)
  have C14 : CHr Z consts_1 s.vm h0 T12.vm h12 := CHr.trans C9 hC12
  have sf15 : Safe Z consts_1 T12.vm h12 a1 := (CHr.safe hC12 f13.lt sf10)
  refine go_st (fun t k => st12 t k) ?_
  show Go _ _ _ _ (T12.setTop (mkF m 20 #[rv a1, rv ac, iv 0, iv 0, .val .null, .unset] [(.ref li12), (.ref a1)]))
  obtain ⟨T16, X16, e16, st16⟩ := getF X12 hx hZ12 hown12 (host := "") (Or.inl (w33 hw)) Via.refl e12 Cs12 (g := (mkF m 20 #[rv a1, rv ac, iv 0, iv 0, .val .null, .unset] [(.ref li12), (.ref a1)])) rfl rfl (hb hby d0_20)
  refine go_st (fun t k => st16 t k) ?_
  show Go _ _ _ _ (T16.setTop (mkF m 23 #[rv a1, rv ac, iv 0, iv 0, .val .null, .unset] [(.int 0), (.ref a1)]))
  have f17 : Fld Z h12 a1 "java/lang/String" "coder" "B" (.int 0) := (((H2.ext E2).other W8 (Or.inr (slot_ne (Or.inr (w34 hw)) (Or.inr (w36 hw)) (by decide) (t := .byte) (t' := (.array .byte)) (by decide) (by decide)))).ext E12)
  have f18 : Exa Z h12 a1 "java/lang/String" := (f13.ext E12)
  obtain ⟨T19, h19, X19, e19, W19, st19⟩ := putFN X16 hx hZ12 hown12 (w33 hw) Via.refl e16 f17 f18 (Or.inr ⟨(w34 hw), rfl, hnm⟩) (w9 hw) (ty := .byte) (v' := (.int 0)) (by decide) rfl rfl (g := (mkF m 23 #[rv a1, rv ac, iv 0, iv 0, .val .null, .unset] [(.int 0), (.ref a1)])) rfl rfl (hb hby d0_23)
  have N19 := Fr.snoc X19 N8 g_a1
  have C20 : CHr Z consts_1 s.vm h0 T12.vm h19 := CHr.trans C14 (CHr.wr W19 sf15 C14.1)
  have sf21 : Safe Z consts_1 T12.vm h19 a1 := (Safe.wr W19 sf15 C14.1 sf15)
  have f22 : Fld Z h19 a1 "java/lang/String" "coder" "B" (.int 0) := f17.same W19
  refine go_st (fun t k => st19 t k) ?_
  show Go _ _ _ _ (T19.setTop (mkF m 26 #[rv a1, rv ac, iv 0, iv 0, .val .null, .unset] []))
  have f23 : Exa Z h19 a1 "java/lang/String" := (f18.wr W19)
  have f24 : Fld Z h19 a1 "java/lang/String" "value" "[B" (.ref t2) := ((f11.ext E12).other W19 (Or.inr (slot_ne (Or.inr (w36 hw)) (Or.inr (w34 hw)) (by decide) (t := (.array .byte)) (t' := .byte) (by decide) (by decide))))
  have nq25 : t2 ≠ a1 := Ne.symm (Exa.neArv f7 As2 (w9 hw))
  have f26 : Arv Z h19 t2 kb2 .byte (0 : Int32) [] (.int 0) := (((As2.other W8 nq25).ext E12).other W19 nq25)
  have ke27 : Keep h0 h2 [a1] := (Keep.ext (Keep.refl h0 [a1]) E2)
  have ke28 : Keep h0 h8 [a1] := (Keep.wr ke27 W8 (Or.inl (List.mem_of_getElem? (i := 0) rfl)))
  have ke29 : Keep h0 h12 [a1] := (Keep.ext ke28 E12)
  have ke30 : Keep h0 h19 [a1] := (Keep.wr ke29 W19 (Or.inl (List.mem_of_getElem? (i := 0) rfl)))
  obtain ⟨fs, hr, hrun, hended, hR⟩ := X19.leaveW hS12 (by rw [e19]; exact (Nat.le_trans hk12 (Nat.le_of_eq W19.size.symm))) (v := none) (fun _ => rfl)
  refine ⟨_, _, ?_, hrun, hended, _, _, rfl, ?_, ?_, hR.1, hR.2.1, hR.2.2.1, hR.2.2.2.mono (by decide) (by decide)⟩
  · exact X19.returnOut hx Bd.returns (hb hby d0_26) hr
  · show Q_strE4 _ _ _ _ _ _ _ T19.heap _
    rw [e19]
    exact ⟨t2, kb2, rfl, N19, ke30, f23, f24, f22, f26⟩
  · show CHr Z consts_1 s.vm s.heap T19.vm T19.heap
    rw [hh, e19]
    exact CHr.trans C20 (CHv.at X19 hZ12 (hEL hw) C20.1)
def Q_strE1 (Z : State) (a1 : Addr) (ac : Addr) (kc : ClassId) (h0 : Heap) (n0 : Nat) (vR : Option Value) (h : Heap) (L : List Loc) : Prop := ∃ (t : Addr) (kb : ClassId), vR = none ∧ Fr n0 L ∧ Keep h0 h [a1] ∧ (Exa Z h a1 "java/lang/String") ∧ (Fld Z h a1 "java/lang/String" "value" "[B" (.ref t)) ∧ (Fld Z h a1 "java/lang/String" "coder" "B" (.int 0)) ∧ (Arv Z h t kb .byte (0 : Int32) [] (.int 0))
theorem ef_strE1 (m : MethodId) (x0 : Addr) (x1 : Addr) : entryFrame m #[(.ref x0), (.ref x1)] 2 = mkF m 0 #[.val (.ref x0), .val (.ref x1)] [] := by first | (simp [entryFrame, mkF, argsToLocals, Value.category]; done) | rfl
set_option maxRecDepth 65536 in
set_option maxHeartbeats 40000000 in
theorem rm_strE1 (l : Launch) (Z : State) (a0 : Array Value) (hw : ∀ d ∈ tables_1, d.before a0 Z = true) (ws : List Jvm.Cond) (a1 : Addr) (ac : Addr) (kc : ClassId) (h0 : Heap) (n0 : Nat) (Z0 : n0 ≤ h0.size) (H0 : Exa Z h0 a1 "java/lang/String") (H1 : Fld Z h0 a1 "java/lang/String" "value" "[B" .null) (H2 : Fld Z h0 a1 "java/lang/String" "coder" "B" (.int 0)) (H3 : Arv Z h0 ac kc .char (0 : Int32) [] (.int (0 : Int32))) (g_a1 : n0 ≤ a1) (ne_a1_ac : a1 ≠ ac) :
    MetFree l (⟨"java/lang/String", "<init>", "([C)V"⟩ : MethodName) (head1 (Jvm.Cond.code (⟨"java/lang/String", "<init>", "([C)V"⟩ : MethodName) jdk_42_method_3_code 2 none :: ws) ({ frames := 2, cells := 4, slots := 8, locals := 29 } : Room)) (fun a U => a = #[(.ref a1), (.ref ac)] ∧ Z.Warmed39 U.vm ∧ U.heap = h0 ∧ CHv Z consts_1 U.vm h0) (fun _ _ _ _ _ => True) (fun _ U o U' => ∃ v L, o = .returned v ∧ Q_strE1 Z a1 ac kc h0 n0 v U'.heap L ∧ CHr Z consts_1 U.vm U.heap U'.vm U'.heap ∧ ReturnedEndW U o U' L ({ frames := 2, cells := 4, slots := 8, locals := 29 } : Room).cells ({ frames := 2, cells := 4, slots := 8, locals := 29 } : Room).slots) := by
  refine MetFree.of_bodySF (plainFor_of_name pn_java_lang_String) hisR ?_
  intro p e s m args below meth c s₁ Bd hml0 hP hK
  obtain ⟨rfl, hZs, hh, HC0⟩ := hP
  have hx := Bd.exec
  have hby := Bd.bytes
  have hml : c.maxLocals = 2 := hml0
  have hZ : Z.Warmed39 (s.setVm s.vm).vm := hZs
  have hown : (s.setVm s.vm).vm.findClass "java/lang/String" = some m.cls := findClass_of_methodNamed Bd.named
  have hnm := (name_of_methodNamed Bd.named Bd.method).1
  have X0 : Stand p l e ({ frames := 2, cells := 4, slots := 8, locals := 29 } : Room) (s.setVm s.vm) m #[(.ref a1), (.ref ac)] below meth c s₁ [] 0 0 := Stand.of_body Bd
  have e0 : s₁.heap = h0 := by rw [← hh, Bd.state]; rfl
  have N0 := Fr.nil n0
  have hS0 : s.Since s.vm s.heap.size := (State.WarmedH.refl s).since _
  have hk0 : s.heap.size ≤ h0.size := Nat.le_of_eq (congrArg Array.size hh)
  have C0 : CHr Z consts_1 s.vm h0 s.vm h0 := CHr.refl HC0
  refine go_st (fun t k => castTop (ef_strE1 m a1 ac) k) ?_
  show Go _ _ _ _ (s₁.setTop (mkF m 0 #[rv a1, rv ac] []))
  refine go_st (fun t k => XS.aloadN X0.here hx rfl (hb hby d1_0) rfl rfl k) ?_
  show Go _ _ _ _ (s₁.setTop (mkF m 1 #[rv a1, rv ac] [(.ref a1)]))
  refine go_st (fun t k => XS.aloadN X0.here hx rfl (hb hby d1_1) rfl rfl k) ?_
  show Go _ _ _ _ (s₁.setTop (mkF m 2 #[rv a1, rv ac] [(.ref ac), (.ref a1)]))
  refine go_st (fun t k => XS.iconst X0.here hx rfl (hb hby d1_2) k) ?_
  show Go _ _ _ _ (s₁.setTop (mkF m 3 #[rv a1, rv ac] [(.int 0), (.ref ac), (.ref a1)]))
  refine go_st (fun t k => XS.aloadN X0.here hx rfl (hb hby d1_3) rfl rfl k) ?_
  show Go _ _ _ _ (s₁.setTop (mkF m 4 #[rv a1, rv ac] [(.ref ac), (.int 0), (.ref ac), (.ref a1)]))
  obtain ⟨zc1, zA1, zq1, zS1, zN1, zH1, zG1⟩ := id H3
  refine go_st (fun t k => X0.arraylength hx (by rw [e0]; exact zA1.1) (State.isArrayOf_alike hZ.alike zA1.2.1) (g := (mkF m 4 #[rv a1, rv ac] [(.ref ac), (.int 0), (.ref ac), (.ref a1)])) rfl rfl (hb hby d1_4) t k) ?_
  rw [len_of zS1 zN1]
  show Go _ _ _ _ (s₁.setTop (mkF m 5 #[rv a1, rv ac] [(.int 0), (.int 0), (.ref ac), (.ref a1)]))
  refine go_st (fun t k => XS.aconstNull X0.here hx rfl (hb hby d1_5) k) ?_
  show Go _ _ _ _ (s₁.setTop (mkF m 6 #[rv a1, rv ac] [.null, (.int 0), (.int 0), (.ref ac), (.ref a1)]))
  obtain ⟨_, _, ⟨T2, L2, kk2, nn2⟩, -, X2, hs22, hg2, ⟨Lc2, hQ2, lq2, yq2, zq2, hC2⟩, st2⟩ := X0.specialBackS hx (y := (⟨"java/lang/String", "<init>", "([CIILjava/lang/Void;)V"⟩ : MethodName)) rfl hown (mvT hZ (w14 hw)) (mvT hZ (w15 hw)) (mvT hZ (w17 hw)) (by decide) (backOfSH (vm0 := s.vm) (W := 0) (rm_strE4 l Z a0 hw [] a1 ac kc h0 n0 (Nat.le_trans Z0 (Nat.le_refl _)) H0 H1 H2 H3 g_a1 ne_a1_ac) hZ (w17 hw) (w10 hw) (by decide) (by decide) (hEL hw) C0.1) (g := (mkF m 6 #[rv a1, rv ac] [.null, (.int 0), (.int 0), (.ref ac), (.ref a1)])) rfl (by rw [hml]; rfl) (Steps.refl _) (a := a1) (argsL := [(.ref ac), (.int 0), (.int 0), .null]) (rest := []) (lenOf pd_0 rfl) rfl (by show 2 * 0 + _ ≤ _; exact Nat.le_of_eq rfl) (hb hby d1_6) (fun _ _ => ⟨rfl, e0, (by decide : 0 + 4 ≤ _), (by decide : 0 + 8 ≤ _)⟩)
  dsimp only [Pt.U, Pt.locs, Pt.cells, Pt.slots] at X2 hs22 hg2 lq2 yq2 zq2 st2 hQ2 hC2
  subst lq2 yq2 zq2
  rw [e0] at hg2
  obtain ⟨X2, hS2, hZ2, hown2⟩ := rebS (vm0 := s.vm) hS0 (Nat.le_trans hk0 (Nat.le_refl _)) X2 hs22 hg2 hZ hown
  obtain ⟨h2, e2⟩ : ∃ z, T2.heap = z := ⟨_, rfl⟩
  rw [e2] at hQ2 hg2 hC2 hS2
  obtain ⟨t_2, kb_2, rfl, N2q, K2, p2_0, p2_1, p2_2, p2_3⟩ := hQ2
  have N2 := Fr.app N0 N2q
  have C3 : CHr Z consts_1 s.vm h0 T2.vm h2 := CHr.trans C0 hC2
  refine go_tr st2 ?_
  show Go _ _ _ _ (T2.setTop (mkF m 9 #[rv a1, rv ac] []))
  have ke4 : Keep h0 h2 [a1] := (Keep.trans (Keep.refl h0 [a1]) K2 (allS (Or.inl (List.mem_of_getElem? (i := 0) rfl)) all0))
  obtain ⟨fs, hr, hrun, hended, hR⟩ := X2.leaveW hS2 (by rw [e2]; exact (Nat.le_trans (Nat.le_refl _) (Nat.le_refl _))) (v := none) (fun _ => rfl)
  refine ⟨_, _, ?_, hrun, hended, _, _, rfl, ?_, ?_, hR.1, hR.2.1, hR.2.2.1, hR.2.2.2.mono (by decide) (by decide)⟩
  · exact X2.returnOut hx Bd.returns (hb hby d1_9) hr
  · show Q_strE1 _ _ _ _ _ _ _ T2.heap _
    rw [e2]
    exact ⟨t_2, kb_2, rfl, N2, ke4, p2_0, p2_1, p2_2, p2_3⟩
  · show CHr Z consts_1 s.vm s.heap T2.vm T2.heap
    rw [hh, e2]
    exact CHr.trans C3 (CHv.at X2 hZ2 (hEL hw) C3.1)
theorem sevens {x : Int32} (h0 : 0 ≤ x.toInt) (h4 : x.toInt ≤ 4) : x = 0 ∨ x = 1 ∨ x = 2 ∨ x = 3 ∨ x = 4 := by
  have e : x = Int32.ofInt x.toInt := (Int32.ofInt_toInt _).symm
  have : x.toInt = 0 ∨ x.toInt = 1 ∨ x.toInt = 2 ∨ x.toInt = 3 ∨ x.toInt = 4 := by omega
  rcases this with q | q | q | q | q <;> rw [q] at e
  · exact Or.inl e
  · exact Or.inr (Or.inl e)
  · exact Or.inr (Or.inr (Or.inl e))
  · exact Or.inr (Or.inr (Or.inr (Or.inl e)))
  · exact Or.inr (Or.inr (Or.inr (Or.inr e)))
def trueL : List Int32 := [116, 114, 117, 101]
def Q_ctor (Z : State) (a1 : Addr) (kd : Addr) (tx : Addr) (nn : Addr) (nv : Addr) (np : Addr) (h0 : Heap) (n0 : Nat) (vR : Option Value) (h : Heap) (L : List Loc) : Prop := vR = none ∧ Fr n0 L ∧ Keep h0 h [a1] ∧ (Exa Z h a1 "com/example/nudge/nudge/tree/Node") ∧ (Fld Z h a1 "com/example/nudge/nudge/tree/Node" "kind" "Lcom/example/nudge/nudge/tree/Node$Kind;" (.ref kd)) ∧ (Fld Z h a1 "com/example/nudge/nudge/tree/Node" "text" "Ljava/lang/String;" (.ref tx)) ∧ (Fld Z h a1 "com/example/nudge/nudge/tree/Node" "names" "[Ljava/lang/String;" (.ref nn)) ∧ (Fld Z h a1 "com/example/nudge/nudge/tree/Node" "values" "[Lcom/example/nudge/nudge/tree/Node;" (.ref nv)) ∧ (Fld Z h a1 "com/example/nudge/nudge/tree/Node" "places" "[I" (.ref np)) ∧ (Fld Z h a1 "com/example/nudge/nudge/tree/Node" "positions" "Ljava/util/Map;" .null)
theorem ef_ctor (m : MethodId) (x0 : Addr) (x1 : Addr) (x2 : Addr) (x3 : Addr) (x4 : Addr) (x5 : Addr) : entryFrame m #[(.ref x0), (.ref x1), (.ref x2), (.ref x3), (.ref x4), (.ref x5), .null] 7 = mkF m 0 #[.val (.ref x0), .val (.ref x1), .val (.ref x2), .val (.ref x3), .val (.ref x4), .val (.ref x5), .val .null] [] := by first | (simp [entryFrame, mkF, argsToLocals, Value.category]; done) | rfl
set_option maxRecDepth 65536 in
set_option maxHeartbeats 40000000 in
theorem rm_ctor (l : Launch) (Z : State) (a0 : Array Value) (hw : ∀ d ∈ tables_1, d.before a0 Z = true) (ws : List Jvm.Cond) (a1 : Addr) (kd : Addr) (tx : Addr) (nn : Addr) (nv : Addr) (np : Addr) (h0 : Heap) (n0 : Nat) (Z0 : n0 ≤ h0.size) (H0 : Exa Z h0 a1 "com/example/nudge/nudge/tree/Node") (H1 : Fld Z h0 a1 "com/example/nudge/nudge/tree/Node" "kind" "Lcom/example/nudge/nudge/tree/Node$Kind;" .null) (H2 : Fld Z h0 a1 "com/example/nudge/nudge/tree/Node" "text" "Ljava/lang/String;" .null) (H3 : Fld Z h0 a1 "com/example/nudge/nudge/tree/Node" "names" "[Ljava/lang/String;" .null) (H4 : Fld Z h0 a1 "com/example/nudge/nudge/tree/Node" "values" "[Lcom/example/nudge/nudge/tree/Node;" .null) (H5 : Fld Z h0 a1 "com/example/nudge/nudge/tree/Node" "places" "[I" .null) (H6 : Fld Z h0 a1 "com/example/nudge/nudge/tree/Node" "positions" "Ljava/util/Map;" .null) (g_a1 : n0 ≤ a1) :
    MetFree l (⟨"com/example/nudge/nudge/tree/Node", "<init>", "(Lcom/example/nudge/nudge/tree/Node$Kind;Ljava/lang/String;[Ljava/lang/String;[Lcom/example/nudge/nudge/tree/Node;[ILjava/util/Map;)V"⟩ : MethodName) (head1 (Jvm.Cond.code (⟨"com/example/nudge/nudge/tree/Node", "<init>", "(Lcom/example/nudge/nudge/tree/Node$Kind;Ljava/lang/String;[Ljava/lang/String;[Lcom/example/nudge/nudge/tree/Node;[ILjava/util/Map;)V"⟩ : MethodName) prog_21_method_1_code 7 none :: ws) ({ frames := 1, cells := 0, slots := 0, locals := 12 } : Room)) (fun a U => a = #[(.ref a1), (.ref kd), (.ref tx), (.ref nn), (.ref nv), (.ref np), .null] ∧ Z.Warmed39 U.vm ∧ U.heap = h0) (fun _ _ _ _ _ => True) (fun _ U o U' => ∃ v L, o = .returned v ∧ Q_ctor Z a1 kd tx nn nv np h0 n0 v U'.heap L ∧ FrameEnd U o U' L ({ frames := 1, cells := 0, slots := 0, locals := 12 } : Room).cells ({ frames := 1, cells := 0, slots := 0, locals := 12 } : Room).slots) := by
  refine MetFree.of_bodySF (plainFor_of_name pn_com_example_nudge_nudge_tree_Node) hisR ?_
  intro p e s m args below meth c s₁ Bd hml0 hP hK
  obtain ⟨rfl, hZ, hh⟩ := hP
  have hx := Bd.exec
  have hby := Bd.bytes
  have hml : c.maxLocals = 7 := hml0
  have hown : s.vm.findClass "com/example/nudge/nudge/tree/Node" = some m.cls := findClass_of_methodNamed Bd.named
  have hnm := (name_of_methodNamed Bd.named Bd.method).1
  have X0 : Stand p l e ({ frames := 1, cells := 0, slots := 0, locals := 12 } : Room) s m #[(.ref a1), (.ref kd), (.ref tx), (.ref nn), (.ref nv), (.ref np), .null] below meth c s₁ [] 0 0 := Stand.of_body Bd
  have e0 : s₁.heap = h0 := by rw [← hh, Bd.state]; rfl
  have N0 := Fr.nil n0
  refine go_st (fun t k => castTop (ef_ctor m a1 kd tx nn nv np) k) ?_
  show Go _ _ _ _ (s₁.setTop (mkF m 0 #[rv a1, rv kd, rv tx, rv nn, rv nv, rv np, .val .null] []))
  refine go_st (fun t k => XS.aloadN X0.here hx rfl (hb hby d2_0) rfl rfl k) ?_
  show Go _ _ _ _ (s₁.setTop (mkF m 1 #[rv a1, rv kd, rv tx, rv nn, rv nv, rv np, .val .null] [(.ref a1)]))
  obtain ⟨T1, X1, e1, st1⟩ := initO X0 hx hZ hown (w56 hw) (w19 hw) (w20 hw) e0 (g := (mkF m 1 #[rv a1, rv kd, rv tx, rv nn, rv nv, rv np, .val .null] [(.ref a1)])) rfl (by rw [hml]; rfl) rfl (hb hby d2_1) (by decide) (W := 0) (by show 2 * 0 + _ ≤ _; exact Nat.le_of_eq rfl) (by decide)
  refine go_st (fun t k => st1 t k) ?_
  show Go _ _ _ _ (T1.setTop (mkF m 4 #[rv a1, rv kd, rv tx, rv nn, rv nv, rv np, .val .null] []))
  refine go_st (fun t k => XS.aloadN X1.here hx rfl (hb hby d2_4) rfl rfl k) ?_
  show Go _ _ _ _ (T1.setTop (mkF m 5 #[rv a1, rv kd, rv tx, rv nn, rv nv, rv np, .val .null] [(.ref a1)]))
  refine go_st (fun t k => XS.aloadN X1.here hx rfl (hb hby d2_5) rfl rfl k) ?_
  show Go _ _ _ _ (T1.setTop (mkF m 6 #[rv a1, rv kd, rv tx, rv nn, rv nv, rv np, .val .null] [(.ref kd), (.ref a1)]))
  obtain ⟨T2, h2, X2, e2, W2, st2⟩ := putF X1 hx hZ hown (host := "") (Or.inl (w57 hw)) Via.refl e1 H1 H0 (Or.inr ⟨(w58 hw), rfl, hnm⟩) (w46 hw) (ty := (.object "com/example/nudge/nudge/tree/Node$Kind")) (by decide) rfl rfl (g := (mkF m 6 #[rv a1, rv kd, rv tx, rv nn, rv nv, rv np, .val .null] [(.ref kd), (.ref a1)])) rfl rfl (hb hby d2_6)
  have N2 := Fr.snoc X2 N0 g_a1
  have f3 : Fld Z h2 a1 "com/example/nudge/nudge/tree/Node" "kind" "Lcom/example/nudge/nudge/tree/Node$Kind;" (.ref kd) := H1.same W2
  refine go_st (fun t k => st2 t k) ?_
  show Go _ _ _ _ (T2.setTop (mkF m 9 #[rv a1, rv kd, rv tx, rv nn, rv nv, rv np, .val .null] []))
  refine go_st (fun t k => XS.aloadN X2.here hx rfl (hb hby d2_9) rfl rfl k) ?_
  show Go _ _ _ _ (T2.setTop (mkF m 10 #[rv a1, rv kd, rv tx, rv nn, rv nv, rv np, .val .null] [(.ref a1)]))
  refine go_st (fun t k => XS.aloadN X2.here hx rfl (hb hby d2_10) rfl rfl k) ?_
  show Go _ _ _ _ (T2.setTop (mkF m 11 #[rv a1, rv kd, rv tx, rv nn, rv nv, rv np, .val .null] [(.ref tx), (.ref a1)]))
  have f4 : Fld Z h2 a1 "com/example/nudge/nudge/tree/Node" "text" "Ljava/lang/String;" .null := (H2.other W2 (Or.inr (slot_ne (Or.inr (w60 hw)) (Or.inr (w58 hw)) (by decide) (t := (.object "java/lang/String")) (t' := (.object "com/example/nudge/nudge/tree/Node$Kind")) (by decide) (by decide))))
  have f5 : Exa Z h2 a1 "com/example/nudge/nudge/tree/Node" := (H0.wr W2)
  obtain ⟨T6, h6, X6, e6, W6, st6⟩ := putF X2 hx hZ hown (host := "") (Or.inl (w59 hw)) Via.refl e2 f4 f5 (Or.inr ⟨(w60 hw), rfl, hnm⟩) (w46 hw) (ty := (.object "java/lang/String")) (by decide) rfl rfl (g := (mkF m 11 #[rv a1, rv kd, rv tx, rv nn, rv nv, rv np, .val .null] [(.ref tx), (.ref a1)])) rfl rfl (hb hby d2_11)
  have N6 := Fr.snoc X6 N2 g_a1
  have f7 : Fld Z h6 a1 "com/example/nudge/nudge/tree/Node" "text" "Ljava/lang/String;" (.ref tx) := f4.same W6
  refine go_st (fun t k => st6 t k) ?_
  show Go _ _ _ _ (T6.setTop (mkF m 14 #[rv a1, rv kd, rv tx, rv nn, rv nv, rv np, .val .null] []))
  refine go_st (fun t k => XS.aloadN X6.here hx rfl (hb hby d2_14) rfl rfl k) ?_
  show Go _ _ _ _ (T6.setTop (mkF m 15 #[rv a1, rv kd, rv tx, rv nn, rv nv, rv np, .val .null] [(.ref a1)]))
  refine go_st (fun t k => XS.aloadN X6.here hx rfl (hb hby d2_15) rfl rfl k) ?_
  show Go _ _ _ _ (T6.setTop (mkF m 16 #[rv a1, rv kd, rv tx, rv nn, rv nv, rv np, .val .null] [(.ref nn), (.ref a1)]))
  have f8 : Fld Z h6 a1 "com/example/nudge/nudge/tree/Node" "names" "[Ljava/lang/String;" .null := ((H3.other W2 (Or.inr (slot_ne (Or.inr (w62 hw)) (Or.inr (w58 hw)) (by decide) (t := (.array (.object "java/lang/String"))) (t' := (.object "com/example/nudge/nudge/tree/Node$Kind")) (by decide) (by decide)))).other W6 (Or.inr (slot_ne (Or.inr (w62 hw)) (Or.inr (w60 hw)) (by decide) (t := (.array (.object "java/lang/String"))) (t' := (.object "java/lang/String")) (by decide) (by decide))))
  have f9 : Exa Z h6 a1 "com/example/nudge/nudge/tree/Node" := (f5.wr W6)
  obtain ⟨T10, h10, X10, e10, W10, st10⟩ := putF X6 hx hZ hown (host := "") (Or.inl (w61 hw)) Via.refl e6 f8 f9 (Or.inr ⟨(w62 hw), rfl, hnm⟩) (w46 hw) (ty := (.array (.object "java/lang/String"))) (by decide) rfl rfl (g := (mkF m 16 #[rv a1, rv kd, rv tx, rv nn, rv nv, rv np, .val .null] [(.ref nn), (.ref a1)])) rfl rfl (hb hby d2_16)
  have N10 := Fr.snoc X10 N6 g_a1
  have f11 : Fld Z h10 a1 "com/example/nudge/nudge/tree/Node" "names" "[Ljava/lang/String;" (.ref nn) := f8.same W10
  refine go_st (fun t k => st10 t k) ?_
  show Go _ _ _ _ (T10.setTop (mkF m 19 #[rv a1, rv kd, rv tx, rv nn, rv nv, rv np, .val .null] []))
  refine go_st (fun t k => XS.aloadN X10.here hx rfl (hb hby d2_19) rfl rfl k) ?_
  show Go _ _ _ _ (T10.setTop (mkF m 20 #[rv a1, rv kd, rv tx, rv nn, rv nv, rv np, .val .null] [(.ref a1)]))
  refine go_st (fun t k => XS.aload X10.here hx rfl (hb hby d2_20) rfl rfl k) ?_
  show Go _ _ _ _ (T10.setTop (mkF m 22 #[rv a1, rv kd, rv tx, rv nn, rv nv, rv np, .val .null] [(.ref nv), (.ref a1)]))
  have f12 : Fld Z h10 a1 "com/example/nudge/nudge/tree/Node" "values" "[Lcom/example/nudge/nudge/tree/Node;" .null := (((H4.other W2 (Or.inr (slot_ne (Or.inr (w64 hw)) (Or.inr (w58 hw)) (by decide) (t := (.array (.object "com/example/nudge/nudge/tree/Node"))) (t' := (.object "com/example/nudge/nudge/tree/Node$Kind")) (by decide) (by decide)))).other W6 (Or.inr (slot_ne (Or.inr (w64 hw)) (Or.inr (w60 hw)) (by decide) (t := (.array (.object "com/example/nudge/nudge/tree/Node"))) (t' := (.object "java/lang/String")) (by decide) (by decide)))).other W10 (Or.inr (slot_ne (Or.inr (w64 hw)) (Or.inr (w62 hw)) (by decide) (t := (.array (.object "com/example/nudge/nudge/tree/Node"))) (t' := (.array (.object "java/lang/String"))) (by decide) (by decide))))
  have f13 : Exa Z h10 a1 "com/example/nudge/nudge/tree/Node" := (f9.wr W10)
  obtain ⟨T14, h14, X14, e14, W14, st14⟩ := putF X10 hx hZ hown (host := "") (Or.inl (w63 hw)) Via.refl e10 f12 f13 (Or.inr ⟨(w64 hw), rfl, hnm⟩) (w46 hw) (ty := (.array (.object "com/example/nudge/nudge/tree/Node"))) (by decide) rfl rfl (g := (mkF m 22 #[rv a1, rv kd, rv tx, rv nn, rv nv, rv np, .val .null] [(.ref nv), (.ref a1)])) rfl rfl (hb hby d2_22)
  have N14 := Fr.snoc X14 N10 g_a1
  have f15 : Fld Z h14 a1 "com/example/nudge/nudge/tree/Node" "values" "[Lcom/example/nudge/nudge/tree/Node;" (.ref nv) := f12.same W14
  refine go_st (fun t k => st14 t k) ?_
  show Go _ _ _ _ (T14.setTop (mkF m 25 #[rv a1, rv kd, rv tx, rv nn, rv nv, rv np, .val .null] []))
  refine go_st (fun t k => XS.aloadN X14.here hx rfl (hb hby d2_25) rfl rfl k) ?_
  show Go _ _ _ _ (T14.setTop (mkF m 26 #[rv a1, rv kd, rv tx, rv nn, rv nv, rv np, .val .null] [(.ref a1)]))
  refine go_st (fun t k => XS.aload X14.here hx rfl (hb hby d2_26) rfl rfl k) ?_
  show Go _ _ _ _ (T14.setTop (mkF m 28 #[rv a1, rv kd, rv tx, rv nn, rv nv, rv np, .val .null] [(.ref np), (.ref a1)]))
  have f16 : Fld Z h14 a1 "com/example/nudge/nudge/tree/Node" "places" "[I" .null := ((((H5.other W2 (Or.inr (slot_ne (Or.inr (w66 hw)) (Or.inr (w58 hw)) (by decide) (t := (.array .int)) (t' := (.object "com/example/nudge/nudge/tree/Node$Kind")) (by decide) (by decide)))).other W6 (Or.inr (slot_ne (Or.inr (w66 hw)) (Or.inr (w60 hw)) (by decide) (t := (.array .int)) (t' := (.object "java/lang/String")) (by decide) (by decide)))).other W10 (Or.inr (slot_ne (Or.inr (w66 hw)) (Or.inr (w62 hw)) (by decide) (t := (.array .int)) (t' := (.array (.object "java/lang/String"))) (by decide) (by decide)))).other W14 (Or.inr (slot_ne (Or.inr (w66 hw)) (Or.inr (w64 hw)) (by decide) (t := (.array .int)) (t' := (.array (.object "com/example/nudge/nudge/tree/Node"))) (by decide) (by decide))))
  have f17 : Exa Z h14 a1 "com/example/nudge/nudge/tree/Node" := (f13.wr W14)
  obtain ⟨T18, h18, X18, e18, W18, st18⟩ := putF X14 hx hZ hown (host := "") (Or.inl (w65 hw)) Via.refl e14 f16 f17 (Or.inr ⟨(w66 hw), rfl, hnm⟩) (w46 hw) (ty := (.array .int)) (by decide) rfl rfl (g := (mkF m 28 #[rv a1, rv kd, rv tx, rv nn, rv nv, rv np, .val .null] [(.ref np), (.ref a1)])) rfl rfl (hb hby d2_28)
  have N18 := Fr.snoc X18 N14 g_a1
  have f19 : Fld Z h18 a1 "com/example/nudge/nudge/tree/Node" "places" "[I" (.ref np) := f16.same W18
  refine go_st (fun t k => st18 t k) ?_
  show Go _ _ _ _ (T18.setTop (mkF m 31 #[rv a1, rv kd, rv tx, rv nn, rv nv, rv np, .val .null] []))
  refine go_st (fun t k => XS.aloadN X18.here hx rfl (hb hby d2_31) rfl rfl k) ?_
  show Go _ _ _ _ (T18.setTop (mkF m 32 #[rv a1, rv kd, rv tx, rv nn, rv nv, rv np, .val .null] [(.ref a1)]))
  refine go_st (fun t k => XS.aload X18.here hx rfl (hb hby d2_32) rfl rfl k) ?_
  show Go _ _ _ _ (T18.setTop (mkF m 34 #[rv a1, rv kd, rv tx, rv nn, rv nv, rv np, .val .null] [.null, (.ref a1)]))
  have f20 : Fld Z h18 a1 "com/example/nudge/nudge/tree/Node" "positions" "Ljava/util/Map;" .null := (((((H6.other W2 (Or.inr (slot_ne (Or.inr (w68 hw)) (Or.inr (w58 hw)) (by decide) (t := (.object "java/util/Map")) (t' := (.object "com/example/nudge/nudge/tree/Node$Kind")) (by decide) (by decide)))).other W6 (Or.inr (slot_ne (Or.inr (w68 hw)) (Or.inr (w60 hw)) (by decide) (t := (.object "java/util/Map")) (t' := (.object "java/lang/String")) (by decide) (by decide)))).other W10 (Or.inr (slot_ne (Or.inr (w68 hw)) (Or.inr (w62 hw)) (by decide) (t := (.object "java/util/Map")) (t' := (.array (.object "java/lang/String"))) (by decide) (by decide)))).other W14 (Or.inr (slot_ne (Or.inr (w68 hw)) (Or.inr (w64 hw)) (by decide) (t := (.object "java/util/Map")) (t' := (.array (.object "com/example/nudge/nudge/tree/Node"))) (by decide) (by decide)))).other W18 (Or.inr (slot_ne (Or.inr (w68 hw)) (Or.inr (w66 hw)) (by decide) (t := (.object "java/util/Map")) (t' := (.array .int)) (by decide) (by decide))))
  have f21 : Exa Z h18 a1 "com/example/nudge/nudge/tree/Node" := (f17.wr W18)
  obtain ⟨T22, h22, X22, e22, W22, st22⟩ := putF X18 hx hZ hown (host := "") (Or.inl (w67 hw)) Via.refl e18 f20 f21 (Or.inr ⟨(w68 hw), rfl, hnm⟩) (w46 hw) (ty := (.object "java/util/Map")) (by decide) rfl rfl (g := (mkF m 34 #[rv a1, rv kd, rv tx, rv nn, rv nv, rv np, .val .null] [.null, (.ref a1)])) rfl rfl (hb hby d2_34)
  have N22 := Fr.snoc X22 N18 g_a1
  have f23 : Fld Z h22 a1 "com/example/nudge/nudge/tree/Node" "positions" "Ljava/util/Map;" .null := f20.same W22
  refine go_st (fun t k => st22 t k) ?_
  show Go _ _ _ _ (T22.setTop (mkF m 37 #[rv a1, rv kd, rv tx, rv nn, rv nv, rv np, .val .null] []))
  have f24 : Exa Z h22 a1 "com/example/nudge/nudge/tree/Node" := (f21.wr W22)
  have f25 : Fld Z h22 a1 "com/example/nudge/nudge/tree/Node" "kind" "Lcom/example/nudge/nudge/tree/Node$Kind;" (.ref kd) := (((((f3.other W6 (Or.inr (slot_ne (Or.inr (w58 hw)) (Or.inr (w60 hw)) (by decide) (t := (.object "com/example/nudge/nudge/tree/Node$Kind")) (t' := (.object "java/lang/String")) (by decide) (by decide)))).other W10 (Or.inr (slot_ne (Or.inr (w58 hw)) (Or.inr (w62 hw)) (by decide) (t := (.object "com/example/nudge/nudge/tree/Node$Kind")) (t' := (.array (.object "java/lang/String"))) (by decide) (by decide)))).other W14 (Or.inr (slot_ne (Or.inr (w58 hw)) (Or.inr (w64 hw)) (by decide) (t := (.object "com/example/nudge/nudge/tree/Node$Kind")) (t' := (.array (.object "com/example/nudge/nudge/tree/Node"))) (by decide) (by decide)))).other W18 (Or.inr (slot_ne (Or.inr (w58 hw)) (Or.inr (w66 hw)) (by decide) (t := (.object "com/example/nudge/nudge/tree/Node$Kind")) (t' := (.array .int)) (by decide) (by decide)))).other W22 (Or.inr (slot_ne (Or.inr (w58 hw)) (Or.inr (w68 hw)) (by decide) (t := (.object "com/example/nudge/nudge/tree/Node$Kind")) (t' := (.object "java/util/Map")) (by decide) (by decide))))
  have f26 : Fld Z h22 a1 "com/example/nudge/nudge/tree/Node" "text" "Ljava/lang/String;" (.ref tx) := ((((f7.other W10 (Or.inr (slot_ne (Or.inr (w60 hw)) (Or.inr (w62 hw)) (by decide) (t := (.object "java/lang/String")) (t' := (.array (.object "java/lang/String"))) (by decide) (by decide)))).other W14 (Or.inr (slot_ne (Or.inr (w60 hw)) (Or.inr (w64 hw)) (by decide) (t := (.object "java/lang/String")) (t' := (.array (.object "com/example/nudge/nudge/tree/Node"))) (by decide) (by decide)))).other W18 (Or.inr (slot_ne (Or.inr (w60 hw)) (Or.inr (w66 hw)) (by decide) (t := (.object "java/lang/String")) (t' := (.array .int)) (by decide) (by decide)))).other W22 (Or.inr (slot_ne (Or.inr (w60 hw)) (Or.inr (w68 hw)) (by decide) (t := (.object "java/lang/String")) (t' := (.object "java/util/Map")) (by decide) (by decide))))
  have f27 : Fld Z h22 a1 "com/example/nudge/nudge/tree/Node" "names" "[Ljava/lang/String;" (.ref nn) := (((f11.other W14 (Or.inr (slot_ne (Or.inr (w62 hw)) (Or.inr (w64 hw)) (by decide) (t := (.array (.object "java/lang/String"))) (t' := (.array (.object "com/example/nudge/nudge/tree/Node"))) (by decide) (by decide)))).other W18 (Or.inr (slot_ne (Or.inr (w62 hw)) (Or.inr (w66 hw)) (by decide) (t := (.array (.object "java/lang/String"))) (t' := (.array .int)) (by decide) (by decide)))).other W22 (Or.inr (slot_ne (Or.inr (w62 hw)) (Or.inr (w68 hw)) (by decide) (t := (.array (.object "java/lang/String"))) (t' := (.object "java/util/Map")) (by decide) (by decide))))
  have f28 : Fld Z h22 a1 "com/example/nudge/nudge/tree/Node" "values" "[Lcom/example/nudge/nudge/tree/Node;" (.ref nv) := ((f15.other W18 (Or.inr (slot_ne (Or.inr (w64 hw)) (Or.inr (w66 hw)) (by decide) (t := (.array (.object "com/example/nudge/nudge/tree/Node"))) (t' := (.array .int)) (by decide) (by decide)))).other W22 (Or.inr (slot_ne (Or.inr (w64 hw)) (Or.inr (w68 hw)) (by decide) (t := (.array (.object "com/example/nudge/nudge/tree/Node"))) (t' := (.object "java/util/Map")) (by decide) (by decide))))
  have f29 : Fld Z h22 a1 "com/example/nudge/nudge/tree/Node" "places" "[I" (.ref np) := (f19.other W22 (Or.inr (slot_ne (Or.inr (w66 hw)) (Or.inr (w68 hw)) (by decide) (t := (.array .int)) (t' := (.object "java/util/Map")) (by decide) (by decide))))
  have ke30 : Keep h0 h2 [a1] := (Keep.wr (Keep.refl h0 [a1]) W2 (Or.inl (List.mem_of_getElem? (i := 0) rfl)))
  have ke31 : Keep h0 h6 [a1] := (Keep.wr ke30 W6 (Or.inl (List.mem_of_getElem? (i := 0) rfl)))
  have ke32 : Keep h0 h10 [a1] := (Keep.wr ke31 W10 (Or.inl (List.mem_of_getElem? (i := 0) rfl)))
  have ke33 : Keep h0 h14 [a1] := (Keep.wr ke32 W14 (Or.inl (List.mem_of_getElem? (i := 0) rfl)))
  have ke34 : Keep h0 h18 [a1] := (Keep.wr ke33 W18 (Or.inl (List.mem_of_getElem? (i := 0) rfl)))
  have ke35 : Keep h0 h22 [a1] := (Keep.wr ke34 W22 (Or.inl (List.mem_of_getElem? (i := 0) rfl)))
  obtain ⟨fs, hr, hrun, hended, hW, hsame⟩ := X22.leave (v := none) (fun _ => rfl)
  refine ⟨_, _, ?_, hrun, hended, _, _, rfl, ?_, ⟨_, rfl⟩, hW, hsame.mono (by decide) (by decide)⟩
  · exact X22.returnOut hx Bd.returns (hb hby d2_37) hr
  · show Q_ctor _ _ _ _ _ _ _ _ _ _ T22.heap _
    rw [e22]
    exact ⟨rfl, N22, ke35, f24, f25, f26, f27, f28, f29, f23⟩
def Q_scalar (Z : State) (kd : Addr) (tx : Addr) (nn : Addr) (nv : Addr) (np : Addr) (gO : Addr) (gA : Addr) (h0 : Heap) (n0 : Nat) (vR : Option Value) (h : Heap) (L : List Loc) : Prop := ∃ (b : Addr), vR = some (.ref b) ∧ Fr n0 L ∧ Keep h0 h [] ∧ n0 ≤ b ∧ h0.size ≤ b ∧ (Exa Z h b "com/example/nudge/nudge/tree/Node") ∧ (Fld Z h b "com/example/nudge/nudge/tree/Node" "kind" "Lcom/example/nudge/nudge/tree/Node$Kind;" (.ref kd)) ∧ (Fld Z h b "com/example/nudge/nudge/tree/Node" "text" "Ljava/lang/String;" (.ref tx)) ∧ (Fld Z h b "com/example/nudge/nudge/tree/Node" "names" "[Ljava/lang/String;" (.ref nn)) ∧ (Fld Z h b "com/example/nudge/nudge/tree/Node" "values" "[Lcom/example/nudge/nudge/tree/Node;" (.ref nv)) ∧ (Fld Z h b "com/example/nudge/nudge/tree/Node" "places" "[I" (.ref np)) ∧ (Fld Z h b "com/example/nudge/nudge/tree/Node" "positions" "Ljava/util/Map;" .null)
theorem ef_scalar (m : MethodId) (x0 : Addr) (x1 : Addr) : entryFrame m #[(.ref x0), (.ref x1)] 2 = mkF m 0 #[.val (.ref x0), .val (.ref x1)] [] := by first | (simp [entryFrame, mkF, argsToLocals, Value.category]; done) | rfl
set_option maxRecDepth 65536 in
set_option maxHeartbeats 40000000 in
theorem rm_scalar (l : Launch) (Z : State) (a0 : Array Value) (hw : ∀ d ∈ tables_1, d.before a0 Z = true) (ws : List Jvm.Cond) (kd : Addr) (tx : Addr) (nn : Addr) (nv : Addr) (np : Addr) (gO : Addr) (gA : Addr) (h0 : Heap) (n0 : Nat) (Z0 : n0 ≤ h0.size) (GSO : Sta Z Z.heap "com/example/nudge/nudge/tree/Node$Kind" "OBJECT" "Lcom/example/nudge/nudge/tree/Node$Kind;" (.ref gO)) (GSA : Sta Z Z.heap "com/example/nudge/nudge/tree/Node$Kind" "ARRAY" "Lcom/example/nudge/nudge/tree/Node$Kind;" (.ref gA)) (AS_nn : Sta Z Z.heap "com/example/nudge/nudge/tree/Node" "NO_NAMES" "[Ljava/lang/String;" (.ref nn)) (AS_nv : Sta Z Z.heap "com/example/nudge/nudge/tree/Node" "NO_VALUES" "[Lcom/example/nudge/nudge/tree/Node;" (.ref nv)) (AS_np : Sta Z Z.heap "com/example/nudge/nudge/tree/Node" "NO_PLACES" "[I" (.ref np)) (nO : kd ≠ gO) (nA : kd ≠ gA) (O0 : Old Z n0 h0) :
    MetFree l (⟨"com/example/nudge/nudge/tree/Node", "scalar", "(Lcom/example/nudge/nudge/tree/Node$Kind;Ljava/lang/String;)Lcom/example/nudge/nudge/tree/Node;"⟩ : MethodName) (head1 (Jvm.Cond.code (⟨"com/example/nudge/nudge/tree/Node", "scalar", "(Lcom/example/nudge/nudge/tree/Node$Kind;Ljava/lang/String;)Lcom/example/nudge/nudge/tree/Node;"⟩ : MethodName) prog_21_method_2_code 2 (some (.object "com/example/nudge/nudge/tree/Node")) :: ws) ({ frames := 2, cells := 1, slots := 6, locals := 31 } : Room)) (fun a U => a = #[(.ref kd), (.ref tx)] ∧ Z.Warmed39 U.vm ∧ U.heap = h0) (fun _ _ _ _ _ => True) (fun _ U o U' => ∃ v L, o = .returned v ∧ Q_scalar Z kd tx nn nv np gO gA h0 n0 v U'.heap L ∧ FrameEnd U o U' L ({ frames := 2, cells := 1, slots := 6, locals := 31 } : Room).cells ({ frames := 2, cells := 1, slots := 6, locals := 31 } : Room).slots) := by
  refine MetFree.of_bodySF (plainFor_of_name pn_com_example_nudge_nudge_tree_Node) hisR ?_
  intro p e s m args below meth c s₁ Bd hml0 hP hK
  obtain ⟨rfl, hZ, hh⟩ := hP
  have hx := Bd.exec
  have hby := Bd.bytes
  have hml : c.maxLocals = 2 := hml0
  have hown : s.vm.findClass "com/example/nudge/nudge/tree/Node" = some m.cls := findClass_of_methodNamed Bd.named
  have hnm := (name_of_methodNamed Bd.named Bd.method).1
  have X0 : Stand p l e ({ frames := 2, cells := 1, slots := 6, locals := 31 } : Room) s m #[(.ref kd), (.ref tx)] below meth c s₁ [] 0 0 := Stand.of_body Bd
  have e0 : s₁.heap = h0 := by rw [← hh, Bd.state]; rfl
  have N0 := Fr.nil n0
  refine go_st (fun t k => castTop (ef_scalar m kd tx) k) ?_
  show Go _ _ _ _ (s₁.setTop (mkF m 0 #[rv kd, rv tx] []))
  refine go_st (fun t k => XS.aloadN X0.here hx rfl (hb hby d3_0) rfl rfl k) ?_
  show Go _ _ _ _ (s₁.setTop (mkF m 1 #[rv kd, rv tx] [(.ref kd)]))
  obtain ⟨T1, X1, e1, st1⟩ := getS2 X0 hx hZ hown (host := "") (Or.inl (w41 hw)) Via.refl e0 (Sta.ext O0.2 GSO) (g := (mkF m 1 #[rv kd, rv tx] [(.ref kd)])) rfl (hb hby d3_1)
  refine go_st (fun t k => st1 t k) ?_
  show Go _ _ _ _ (T1.setTop (mkF m 4 #[rv kd, rv tx] [(.ref gO), (.ref kd)]))
  refine go_st (fun t k => Jvm.RoadKit.acmp (g := (mkF m 4 #[rv kd, rv tx] [(.ref gO), (.ref kd)])) X1 hx rfl rfl rfl (pc0 := 4) (pc' := 7) (same := false) rfl (hb hby d3_4) rfl (decide_eq_false fun q => nO (Value.ref.inj q)) (by decide) (by decide) k) ?_
  show Go _ _ _ _ (T1.setTop (mkF m 7 #[rv kd, rv tx] []))
  refine go_st (fun t k => XS.aloadN X1.here hx rfl (hb hby d3_7) rfl rfl k) ?_
  show Go _ _ _ _ (T1.setTop (mkF m 8 #[rv kd, rv tx] [(.ref kd)]))
  obtain ⟨T2, X2, e2, st2⟩ := getS2 X1 hx hZ hown (host := "") (Or.inl (w43 hw)) Via.refl e1 (Sta.ext O0.2 GSA) (g := (mkF m 8 #[rv kd, rv tx] [(.ref kd)])) rfl (hb hby d3_8)
  refine go_st (fun t k => st2 t k) ?_
  show Go _ _ _ _ (T2.setTop (mkF m 11 #[rv kd, rv tx] [(.ref gA), (.ref kd)]))
  refine go_st (fun t k => Jvm.RoadKit.acmp (g := (mkF m 11 #[rv kd, rv tx] [(.ref gA), (.ref kd)])) X2 hx rfl rfl rfl (pc0 := 11) (pc' := 31) (same := false) rfl (hb hby d3_11) rfl (decide_eq_false fun q => nA (Value.ref.inj q)) (by decide) (by decide) k) ?_
  show Go _ _ _ _ (T2.setTop (mkF m 31 #[rv kd, rv tx] []))
  obtain ⟨T3, h3, X3, e3, E3, A3, D3, -, st3⟩ := newO X2 hx hZ hown (w45 hw) (w46 hw) (w39 hw) e2 (g := (mkF m 31 #[rv kd, rv tx] [])) rfl (hb hby d3_31) (by decide) (by decide)
  obtain ⟨b3, gq3⟩ : ∃ z, z = h0.size := ⟨_, rfl⟩
  rw [← gq3] at A3 D3 st3
  have f4 : Fld Z h3 b3 "com/example/nudge/nudge/tree/Node" "kind" "Lcom/example/nudge/nudge/tree/Node$Kind;" .null := D3 (Or.inr (w58 hw)) (ty := (.object "com/example/nudge/nudge/tree/Node$Kind")) (by decide)
  have f5 : Fld Z h3 b3 "com/example/nudge/nudge/tree/Node" "text" "Ljava/lang/String;" .null := D3 (Or.inr (w60 hw)) (ty := (.object "java/lang/String")) (by decide)
  have f6 : Fld Z h3 b3 "com/example/nudge/nudge/tree/Node" "names" "[Ljava/lang/String;" .null := D3 (Or.inr (w62 hw)) (ty := (.array (.object "java/lang/String"))) (by decide)
  have f7 : Fld Z h3 b3 "com/example/nudge/nudge/tree/Node" "values" "[Lcom/example/nudge/nudge/tree/Node;" .null := D3 (Or.inr (w64 hw)) (ty := (.array (.object "com/example/nudge/nudge/tree/Node"))) (by decide)
  have f8 : Fld Z h3 b3 "com/example/nudge/nudge/tree/Node" "places" "[I" .null := D3 (Or.inr (w66 hw)) (ty := (.array .int)) (by decide)
  have f9 : Fld Z h3 b3 "com/example/nudge/nudge/tree/Node" "positions" "Ljava/util/Map;" .null := D3 (Or.inr (w68 hw)) (ty := (.object "java/util/Map")) (by decide)
  refine go_st (fun t k => st3 t k) ?_
  show Go _ _ _ _ (T3.setTop (mkF m 34 #[rv kd, rv tx] [(.ref b3)]))
  refine go_st (fun t k => XS.dup X3.here hx rfl (hb hby d3_34) rfl rfl k) ?_
  show Go _ _ _ _ (T3.setTop (mkF m 35 #[rv kd, rv tx] [(.ref b3), (.ref b3)]))
  refine go_st (fun t k => XS.aloadN X3.here hx rfl (hb hby d3_35) rfl rfl k) ?_
  show Go _ _ _ _ (T3.setTop (mkF m 36 #[rv kd, rv tx] [(.ref kd), (.ref b3), (.ref b3)]))
  refine go_st (fun t k => XS.aloadN X3.here hx rfl (hb hby d3_36) rfl rfl k) ?_
  show Go _ _ _ _ (T3.setTop (mkF m 37 #[rv kd, rv tx] [(.ref tx), (.ref kd), (.ref b3), (.ref b3)]))
  have oe11 : Old Z n0 h3 := (Old.ext O0 E3)
  obtain ⟨T10, X10, e10, st10⟩ := getS2 X3 hx hZ hown (host := "") (Or.inl (w47 hw)) Via.refl e3 (Sta.ext oe11.2 AS_nn) (g := (mkF m 37 #[rv kd, rv tx] [(.ref tx), (.ref kd), (.ref b3), (.ref b3)])) rfl (hb hby d3_37)
  refine go_st (fun t k => st10 t k) ?_
  show Go _ _ _ _ (T10.setTop (mkF m 40 #[rv kd, rv tx] [(.ref nn), (.ref tx), (.ref kd), (.ref b3), (.ref b3)]))
  obtain ⟨T12, X12, e12, st12⟩ := getS2 X10 hx hZ hown (host := "") (Or.inl (w49 hw)) Via.refl e10 (Sta.ext oe11.2 AS_nv) (g := (mkF m 40 #[rv kd, rv tx] [(.ref nn), (.ref tx), (.ref kd), (.ref b3), (.ref b3)])) rfl (hb hby d3_40)
  refine go_st (fun t k => st12 t k) ?_
  show Go _ _ _ _ (T12.setTop (mkF m 43 #[rv kd, rv tx] [(.ref nv), (.ref nn), (.ref tx), (.ref kd), (.ref b3), (.ref b3)]))
  obtain ⟨T13, X13, e13, st13⟩ := getS2 X12 hx hZ hown (host := "") (Or.inl (w51 hw)) Via.refl e12 (Sta.ext oe11.2 AS_np) (g := (mkF m 43 #[rv kd, rv tx] [(.ref nv), (.ref nn), (.ref tx), (.ref kd), (.ref b3), (.ref b3)])) rfl (hb hby d3_43)
  refine go_st (fun t k => st13 t k) ?_
  show Go _ _ _ _ (T13.setTop (mkF m 46 #[rv kd, rv tx] [(.ref np), (.ref nv), (.ref nn), (.ref tx), (.ref kd), (.ref b3), (.ref b3)]))
  refine go_st (fun t k => XS.aconstNull X13.here hx rfl (hb hby d3_46) k) ?_
  show Go _ _ _ _ (T13.setTop (mkF m 47 #[rv kd, rv tx] [.null, (.ref np), (.ref nv), (.ref nn), (.ref tx), (.ref kd), (.ref b3), (.ref b3)]))
  have g_b3 : n0 ≤ b3 := Nat.le_trans (Nat.le_trans Z0 (Nat.le_refl _)) (Nat.le_of_eq gq3.symm)
  obtain ⟨_, _, ⟨T14, L14, kk14, nn14⟩, -, X14, ⟨Lc14, hQ14, lq14, yq14, zq14⟩, st14⟩ := X13.specialBack hx (y := (⟨"com/example/nudge/nudge/tree/Node", "<init>", "(Lcom/example/nudge/nudge/tree/Node$Kind;Ljava/lang/String;[Ljava/lang/String;[Lcom/example/nudge/nudge/tree/Node;[ILjava/util/Map;)V"⟩ : MethodName)) rfl hown (mvT hZ (w53 hw)) (mvT hZ (w54 hw)) (mvT hZ (w55 hw)) (by decide) (backOf (W := 1) (rm_ctor l Z a0 hw [] b3 kd tx nn nv np h3 n0 (Nat.le_trans Z0 E3.1) A3 f4 f5 f6 f7 f8 f9 g_b3) hZ (w55 hw) (w39 hw) (by decide) (by decide)) (g := (mkF m 47 #[rv kd, rv tx] [.null, (.ref np), (.ref nv), (.ref nn), (.ref tx), (.ref kd), (.ref b3), (.ref b3)])) rfl (by rw [hml]; rfl) (Steps.refl _) (a := b3) (argsL := [(.ref kd), (.ref tx), (.ref nn), (.ref nv), (.ref np), .null]) (rest := [(.ref b3)]) (lenOf pd_1 rfl) rfl (by show 2 * 0 + _ ≤ _; exact Nat.le_of_eq rfl) (hb hby d3_47) (fun _ _ => ⟨rfl, e13, (by decide : 1 + 0 ≤ _), (by decide : 6 + 0 ≤ _)⟩)
  dsimp only [Pt.U, Pt.locs, Pt.cells, Pt.slots] at X14 lq14 yq14 zq14 st14 hQ14
  subst lq14 yq14 zq14
  obtain ⟨h14, e14⟩ : ∃ z, T14.heap = z := ⟨_, rfl⟩
  rw [e14] at hQ14
  obtain ⟨rfl, N14q, K14, p14_0, p14_1, p14_2, p14_3, p14_4, p14_5, p14_6⟩ := hQ14
  have N14 := Fr.app N0 N14q
  refine go_tr st14 ?_
  show Go _ _ _ _ (T14.setTop (mkF m 50 #[rv kd, rv tx] [(.ref b3)]))
  have ke15 : Keep h0 h3 [] := (Keep.ext (Keep.refl h0 []) E3)
  have ke16 : Keep h0 h14 [] := (Keep.trans ke15 K14 (allS (Or.inr (Nat.le_of_eq gq3.symm)) all0))
  obtain ⟨fs, hr, hrun, hended, hW, hsame⟩ := X14.leave (v := some (.ref b3)) (fun h => by rw [Bd.returns] at h; cases h)
  refine ⟨_, _, ?_, hrun, hended, _, _, rfl, ?_, ⟨_, rfl⟩, hW, hsame.mono (by decide) (by decide)⟩
  · exact retOut X14 hx Bd.returns rfl (Or.inr (Or.inr (Or.inr (Or.inr ⟨rfl, rfl, rfl⟩)))) (hb hby d3_50) hr
  · show Q_scalar _ _ _ _ _ _ _ _ _ _ _ T14.heap _
    rw [e14]
    exact ⟨b3, rfl, N14, ke16, g_b3, (Nat.le_of_eq gq3.symm), p14_0, p14_1, p14_2, p14_3, p14_4, p14_5, p14_6⟩
def Q_get_kind (Z : State) (a1 : Addr) (x : Addr) (h0 : Heap) (n0 : Nat) (vR : Option Value) (h : Heap) (L : List Loc) : Prop := vR = some (.ref x) ∧ Fr n0 L ∧ h = h0
theorem ef_get_kind (m : MethodId) (x0 : Addr) : entryFrame m #[(.ref x0)] 1 = mkF m 0 #[.val (.ref x0)] [] := by first | (simp [entryFrame, mkF, argsToLocals, Value.category]; done) | rfl
set_option maxRecDepth 65536 in
set_option maxHeartbeats 40000000 in
theorem rm_get_kind (l : Launch) (Z : State) (a0 : Array Value) (hw : ∀ d ∈ tables_1, d.before a0 Z = true) (ws : List Jvm.Cond) (a1 : Addr) (x : Addr) (h0 : Heap) (n0 : Nat) (Z0 : n0 ≤ h0.size) (H0 : Fld Z h0 a1 "com/example/nudge/nudge/tree/Node" "kind" "Lcom/example/nudge/nudge/tree/Node$Kind;" (.ref x)) :
    MetFree l (⟨"com/example/nudge/nudge/tree/Node", "kind", "()Lcom/example/nudge/nudge/tree/Node$Kind;"⟩ : MethodName) (head1 (Jvm.Cond.code (⟨"com/example/nudge/nudge/tree/Node", "kind", "()Lcom/example/nudge/nudge/tree/Node$Kind;"⟩ : MethodName) prog_21_method_3_code 1 (some (.object "com/example/nudge/nudge/tree/Node$Kind")) :: ws) ({ frames := 0, cells := 0, slots := 0, locals := 0 } : Room)) (fun a U => a = #[(.ref a1)] ∧ Z.Warmed39 U.vm ∧ U.heap = h0) (fun _ _ _ _ _ => True) (fun _ U o U' => ∃ v L, o = .returned v ∧ Q_get_kind Z a1 x h0 n0 v U'.heap L ∧ FrameEnd U o U' L ({ frames := 0, cells := 0, slots := 0, locals := 0 } : Room).cells ({ frames := 0, cells := 0, slots := 0, locals := 0 } : Room).slots) := by
  refine MetFree.of_bodySF (plainFor_of_name pn_com_example_nudge_nudge_tree_Node) hisR ?_
  intro p e s m args below meth c s₁ Bd hml0 hP hK
  obtain ⟨rfl, hZ, hh⟩ := hP
  have hx := Bd.exec
  have hby := Bd.bytes
  have hml : c.maxLocals = 1 := hml0
  have hown : s.vm.findClass "com/example/nudge/nudge/tree/Node" = some m.cls := findClass_of_methodNamed Bd.named
  have hnm := (name_of_methodNamed Bd.named Bd.method).1
  have X0 : Stand p l e ({ frames := 0, cells := 0, slots := 0, locals := 0 } : Room) s m #[(.ref a1)] below meth c s₁ [] 0 0 := Stand.of_body Bd
  have e0 : s₁.heap = h0 := by rw [← hh, Bd.state]; rfl
  have N0 := Fr.nil n0
  refine go_st (fun t k => castTop (ef_get_kind m a1) k) ?_
  show Go _ _ _ _ (s₁.setTop (mkF m 0 #[rv a1] []))
  refine go_st (fun t k => XS.aloadN X0.here hx rfl (hb hby d4_0) rfl rfl k) ?_
  show Go _ _ _ _ (s₁.setTop (mkF m 1 #[rv a1] [(.ref a1)]))
  obtain ⟨T1, X1, e1, st1⟩ := getF X0 hx hZ hown (host := "") (Or.inl (w57 hw)) Via.refl e0 H0 (g := (mkF m 1 #[rv a1] [(.ref a1)])) rfl rfl (hb hby d4_1)
  refine go_st (fun t k => st1 t k) ?_
  show Go _ _ _ _ (T1.setTop (mkF m 4 #[rv a1] [(.ref x)]))
  obtain ⟨fs, hr, hrun, hended, hW, hsame⟩ := X1.leave (v := some (.ref x)) (fun h => by rw [Bd.returns] at h; cases h)
  refine ⟨_, _, ?_, hrun, hended, _, _, rfl, ?_, ⟨_, rfl⟩, hW, hsame.mono (by decide) (by decide)⟩
  · exact retOut X1 hx Bd.returns rfl (Or.inr (Or.inr (Or.inr (Or.inr ⟨rfl, rfl, rfl⟩)))) (hb hby d4_4) hr
  · show Q_get_kind _ _ _ _ _ _ T1.heap _
    rw [e1]
    exact ⟨rfl, N0, rfl⟩
def Q_get_text (Z : State) (a1 : Addr) (x : Addr) (h0 : Heap) (n0 : Nat) (vR : Option Value) (h : Heap) (L : List Loc) : Prop := vR = some (.ref x) ∧ Fr n0 L ∧ h = h0
theorem ef_get_text (m : MethodId) (x0 : Addr) : entryFrame m #[(.ref x0)] 1 = mkF m 0 #[.val (.ref x0)] [] := by first | (simp [entryFrame, mkF, argsToLocals, Value.category]; done) | rfl
set_option maxRecDepth 65536 in
set_option maxHeartbeats 40000000 in
theorem rm_get_text (l : Launch) (Z : State) (a0 : Array Value) (hw : ∀ d ∈ tables_1, d.before a0 Z = true) (ws : List Jvm.Cond) (a1 : Addr) (x : Addr) (h0 : Heap) (n0 : Nat) (Z0 : n0 ≤ h0.size) (H0 : Fld Z h0 a1 "com/example/nudge/nudge/tree/Node" "text" "Ljava/lang/String;" (.ref x)) :
    MetFree l (⟨"com/example/nudge/nudge/tree/Node", "text", "()Ljava/lang/String;"⟩ : MethodName) (head1 (Jvm.Cond.code (⟨"com/example/nudge/nudge/tree/Node", "text", "()Ljava/lang/String;"⟩ : MethodName) prog_21_method_4_code 1 (some (.object "java/lang/String")) :: ws) ({ frames := 0, cells := 0, slots := 0, locals := 0 } : Room)) (fun a U => a = #[(.ref a1)] ∧ Z.Warmed39 U.vm ∧ U.heap = h0) (fun _ _ _ _ _ => True) (fun _ U o U' => ∃ v L, o = .returned v ∧ Q_get_text Z a1 x h0 n0 v U'.heap L ∧ FrameEnd U o U' L ({ frames := 0, cells := 0, slots := 0, locals := 0 } : Room).cells ({ frames := 0, cells := 0, slots := 0, locals := 0 } : Room).slots) := by
  refine MetFree.of_bodySF (plainFor_of_name pn_com_example_nudge_nudge_tree_Node) hisR ?_
  intro p e s m args below meth c s₁ Bd hml0 hP hK
  obtain ⟨rfl, hZ, hh⟩ := hP
  have hx := Bd.exec
  have hby := Bd.bytes
  have hml : c.maxLocals = 1 := hml0
  have hown : s.vm.findClass "com/example/nudge/nudge/tree/Node" = some m.cls := findClass_of_methodNamed Bd.named
  have hnm := (name_of_methodNamed Bd.named Bd.method).1
  have X0 : Stand p l e ({ frames := 0, cells := 0, slots := 0, locals := 0 } : Room) s m #[(.ref a1)] below meth c s₁ [] 0 0 := Stand.of_body Bd
  have e0 : s₁.heap = h0 := by rw [← hh, Bd.state]; rfl
  have N0 := Fr.nil n0
  refine go_st (fun t k => castTop (ef_get_text m a1) k) ?_
  show Go _ _ _ _ (s₁.setTop (mkF m 0 #[rv a1] []))
  refine go_st (fun t k => XS.aloadN X0.here hx rfl (hb hby d5_0) rfl rfl k) ?_
  show Go _ _ _ _ (s₁.setTop (mkF m 1 #[rv a1] [(.ref a1)]))
  obtain ⟨T1, X1, e1, st1⟩ := getF X0 hx hZ hown (host := "") (Or.inl (w59 hw)) Via.refl e0 H0 (g := (mkF m 1 #[rv a1] [(.ref a1)])) rfl rfl (hb hby d5_1)
  refine go_st (fun t k => st1 t k) ?_
  show Go _ _ _ _ (T1.setTop (mkF m 4 #[rv a1] [(.ref x)]))
  obtain ⟨fs, hr, hrun, hended, hW, hsame⟩ := X1.leave (v := some (.ref x)) (fun h => by rw [Bd.returns] at h; cases h)
  refine ⟨_, _, ?_, hrun, hended, _, _, rfl, ?_, ⟨_, rfl⟩, hW, hsame.mono (by decide) (by decide)⟩
  · exact retOut X1 hx Bd.returns rfl (Or.inr (Or.inr (Or.inr (Or.inr ⟨rfl, rfl, rfl⟩)))) (hb hby d5_4) hr
  · show Q_get_text _ _ _ _ _ _ T1.heap _
    rw [e1]
    exact ⟨rfl, N0, rfl⟩
def Q_eqsame (Z : State) (a1 : Addr) (h0 : Heap) (n0 : Nat) (vR : Option Value) (h : Heap) (L : List Loc) : Prop := vR = some (.int 1) ∧ Fr n0 L ∧ h = h0
theorem ef_eqsame (m : MethodId) (x0 : Addr) (x1 : Addr) : entryFrame m #[(.ref x0), (.ref x1)] 3 = mkF m 0 #[.val (.ref x0), .val (.ref x1), .unset] [] := by first | (simp [entryFrame, mkF, argsToLocals, Value.category]; done) | rfl
set_option maxRecDepth 65536 in
set_option maxHeartbeats 40000000 in
theorem rm_eqsame (l : Launch) (Z : State) (a0 : Array Value) (hw : ∀ d ∈ tables_1, d.before a0 Z = true) (ws : List Jvm.Cond) (a1 : Addr) (h0 : Heap) (n0 : Nat) (Z0 : n0 ≤ h0.size)  :
    MetFree l (⟨"java/lang/String", "equals", "(Ljava/lang/Object;)Z"⟩ : MethodName) (head1 (Jvm.Cond.code (⟨"java/lang/String", "equals", "(Ljava/lang/Object;)Z"⟩ : MethodName) jdk_42_method_66_code 3 (some .boolean) :: ws) ({ frames := 0, cells := 0, slots := 0, locals := 0 } : Room)) (fun a U => a = #[(.ref a1), (.ref a1)] ∧ Z.Warmed39 U.vm ∧ U.heap = h0) (fun _ _ _ _ _ => True) (fun _ U o U' => ∃ v L, o = .returned v ∧ Q_eqsame Z a1 h0 n0 v U'.heap L ∧ FrameEnd U o U' L ({ frames := 0, cells := 0, slots := 0, locals := 0 } : Room).cells ({ frames := 0, cells := 0, slots := 0, locals := 0 } : Room).slots) := by
  refine MetFree.of_bodySF (plainFor_of_name pn_java_lang_String) hisR ?_
  intro p e s m args below meth c s₁ Bd hml0 hP hK
  obtain ⟨rfl, hZ, hh⟩ := hP
  have hx := Bd.exec
  have hby := Bd.bytes
  have hml : c.maxLocals = 3 := hml0
  have hown : s.vm.findClass "java/lang/String" = some m.cls := findClass_of_methodNamed Bd.named
  have hnm := (name_of_methodNamed Bd.named Bd.method).1
  have X0 : Stand p l e ({ frames := 0, cells := 0, slots := 0, locals := 0 } : Room) s m #[(.ref a1), (.ref a1)] below meth c s₁ [] 0 0 := Stand.of_body Bd
  have e0 : s₁.heap = h0 := by rw [← hh, Bd.state]; rfl
  have N0 := Fr.nil n0
  refine go_st (fun t k => castTop (ef_eqsame m a1 a1) k) ?_
  show Go _ _ _ _ (s₁.setTop (mkF m 0 #[rv a1, rv a1, .unset] []))
  refine go_st (fun t k => XS.aloadN X0.here hx rfl (hb hby d6_0) rfl rfl k) ?_
  show Go _ _ _ _ (s₁.setTop (mkF m 1 #[rv a1, rv a1, .unset] [(.ref a1)]))
  refine go_st (fun t k => XS.aloadN X0.here hx rfl (hb hby d6_1) rfl rfl k) ?_
  show Go _ _ _ _ (s₁.setTop (mkF m 2 #[rv a1, rv a1, .unset] [(.ref a1), (.ref a1)]))
  refine go_st (fun t k => Jvm.RoadKit.acmp (g := (mkF m 2 #[rv a1, rv a1, .unset] [(.ref a1), (.ref a1)])) X0 hx rfl rfl rfl (pc0 := 2) (pc' := 5) (same := true) rfl (hb hby d6_2) rfl (decide_eq_true rfl) (by decide) (by decide) k) ?_
  show Go _ _ _ _ (s₁.setTop (mkF m 5 #[rv a1, rv a1, .unset] []))
  refine go_st (fun t k => XS.iconst X0.here hx rfl (hb hby d6_5) k) ?_
  show Go _ _ _ _ (s₁.setTop (mkF m 6 #[rv a1, rv a1, .unset] [(.int 1)]))
  obtain ⟨fs, hr, hrun, hended, hW, hsame⟩ := X0.leave (v := some (.int 1)) (fun h => by rw [Bd.returns] at h; cases h)
  refine ⟨_, _, ?_, hrun, hended, _, _, rfl, ?_, ⟨_, rfl⟩, hW, hsame.mono (by decide) (by decide)⟩
  · exact retN X0 hx (t := .boolean) Bd.returns (by simp) (hb hby d6_6) hr
  · show Q_eqsame _ _ _ _ _ s₁.heap _
    rw [e0]
    exact ⟨rfl, N0, rfl⟩
def Q_size (Z : State) (a1 : Addr) (kd : Addr) (gA : Addr) (h0 : Heap) (n0 : Nat) (vR : Option Value) (h : Heap) (L : List Loc) : Prop := vR = some (.int 0) ∧ Fr n0 L ∧ h = h0
theorem ef_size (m : MethodId) (x0 : Addr) : entryFrame m #[(.ref x0)] 1 = mkF m 0 #[.val (.ref x0)] [] := by first | (simp [entryFrame, mkF, argsToLocals, Value.category]; done) | rfl
set_option maxRecDepth 65536 in
set_option maxHeartbeats 40000000 in
theorem rm_size (l : Launch) (Z : State) (a0 : Array Value) (hw : ∀ d ∈ tables_1, d.before a0 Z = true) (ws : List Jvm.Cond) (a1 : Addr) (kd : Addr) (gA : Addr) (h0 : Heap) (n0 : Nat) (Z0 : n0 ≤ h0.size) (H0 : Fld Z h0 a1 "com/example/nudge/nudge/tree/Node" "kind" "Lcom/example/nudge/nudge/tree/Node$Kind;" (.ref kd)) (GSA : Sta Z Z.heap "com/example/nudge/nudge/tree/Node$Kind" "ARRAY" "Lcom/example/nudge/nudge/tree/Node$Kind;" (.ref gA)) (nA : kd ≠ gA) (O0 : Old Z n0 h0) :
    MetFree l (⟨"com/example/nudge/nudge/tree/Node", "size", "()I"⟩ : MethodName) (head1 (Jvm.Cond.code (⟨"com/example/nudge/nudge/tree/Node", "size", "()I"⟩ : MethodName) prog_21_method_10_code 1 (some .int) :: ws) ({ frames := 0, cells := 0, slots := 0, locals := 0 } : Room)) (fun a U => a = #[(.ref a1)] ∧ Z.Warmed39 U.vm ∧ U.heap = h0) (fun _ _ _ _ _ => True) (fun _ U o U' => ∃ v L, o = .returned v ∧ Q_size Z a1 kd gA h0 n0 v U'.heap L ∧ FrameEnd U o U' L ({ frames := 0, cells := 0, slots := 0, locals := 0 } : Room).cells ({ frames := 0, cells := 0, slots := 0, locals := 0 } : Room).slots) := by
  refine MetFree.of_bodySF (plainFor_of_name pn_com_example_nudge_nudge_tree_Node) hisR ?_
  intro p e s m args below meth c s₁ Bd hml0 hP hK
  obtain ⟨rfl, hZ, hh⟩ := hP
  have hx := Bd.exec
  have hby := Bd.bytes
  have hml : c.maxLocals = 1 := hml0
  have hown : s.vm.findClass "com/example/nudge/nudge/tree/Node" = some m.cls := findClass_of_methodNamed Bd.named
  have hnm := (name_of_methodNamed Bd.named Bd.method).1
  have X0 : Stand p l e ({ frames := 0, cells := 0, slots := 0, locals := 0 } : Room) s m #[(.ref a1)] below meth c s₁ [] 0 0 := Stand.of_body Bd
  have e0 : s₁.heap = h0 := by rw [← hh, Bd.state]; rfl
  have N0 := Fr.nil n0
  refine go_st (fun t k => castTop (ef_size m a1) k) ?_
  show Go _ _ _ _ (s₁.setTop (mkF m 0 #[rv a1] []))
  refine go_st (fun t k => XS.aloadN X0.here hx rfl (hb hby d7_0) rfl rfl k) ?_
  show Go _ _ _ _ (s₁.setTop (mkF m 1 #[rv a1] [(.ref a1)]))
  obtain ⟨T1, X1, e1, st1⟩ := getF X0 hx hZ hown (host := "") (Or.inl (w57 hw)) Via.refl e0 H0 (g := (mkF m 1 #[rv a1] [(.ref a1)])) rfl rfl (hb hby d7_1)
  refine go_st (fun t k => st1 t k) ?_
  show Go _ _ _ _ (T1.setTop (mkF m 4 #[rv a1] [(.ref kd)]))
  obtain ⟨T2, X2, e2, st2⟩ := getS2 X1 hx hZ hown (host := "") (Or.inl (w43 hw)) Via.refl e1 (Sta.ext O0.2 GSA) (g := (mkF m 4 #[rv a1] [(.ref kd)])) rfl (hb hby d7_4)
  refine go_st (fun t k => st2 t k) ?_
  show Go _ _ _ _ (T2.setTop (mkF m 7 #[rv a1] [(.ref gA), (.ref kd)]))
  refine go_st (fun t k => Jvm.RoadKit.acmp (g := (mkF m 7 #[rv a1] [(.ref gA), (.ref kd)])) X2 hx rfl rfl rfl (pc0 := 7) (pc' := 18) (same := false) rfl (hb hby d7_7) rfl (decide_eq_false fun q => nA (Value.ref.inj q)) (by decide) (by decide) k) ?_
  show Go _ _ _ _ (T2.setTop (mkF m 18 #[rv a1] []))
  refine go_st (fun t k => XS.iconst X2.here hx rfl (hb hby d7_18) k) ?_
  show Go _ _ _ _ (T2.setTop (mkF m 19 #[rv a1] [(.int 0)]))
  obtain ⟨fs, hr, hrun, hended, hW, hsame⟩ := X2.leave (v := some (.int 0)) (fun h => by rw [Bd.returns] at h; cases h)
  refine ⟨_, _, ?_, hrun, hended, _, _, rfl, ?_, ⟨_, rfl⟩, hW, hsame.mono (by decide) (by decide)⟩
  · exact retI X2 hx Bd.returns (hb hby d7_19) hr
  · show Q_size _ _ _ _ _ _ _ T2.heap _
    rw [e2]
    exact ⟨rfl, N0, rfl⟩
def Q_pos (Z : State) (nn : Addr) (tx : Addr) (h0 : Heap) (n0 : Nat) (vR : Option Value) (h : Heap) (L : List Loc) : Prop := vR = some (.int (-1)) ∧ Fr n0 L ∧ h = h0
theorem ef_pos (m : MethodId) (x0 : Addr) (x1 : Int32) (x3 : Addr) : entryFrame m #[(.ref x0), (.int x1), .null, (.ref x3)] 6 = mkF m 0 #[.val (.ref x0), .val (.int x1), .val .null, .val (.ref x3), .unset, .unset] [] := by first | (simp [entryFrame, mkF, argsToLocals, Value.category]; done) | rfl
set_option maxRecDepth 65536 in
set_option maxHeartbeats 40000000 in
theorem rm_pos (l : Launch) (Z : State) (a0 : Array Value) (hw : ∀ d ∈ tables_1, d.before a0 Z = true) (ws : List Jvm.Cond) (nn : Addr) (tx : Addr) (h0 : Heap) (n0 : Nat) (Z0 : n0 ≤ h0.size)  :
    MetFree l (⟨"com/example/nudge/nudge/tree/Node", "position", "([Ljava/lang/String;ILjava/util/Map;Ljava/lang/String;)I"⟩ : MethodName) (head1 (Jvm.Cond.code (⟨"com/example/nudge/nudge/tree/Node", "position", "([Ljava/lang/String;ILjava/util/Map;Ljava/lang/String;)I"⟩ : MethodName) prog_21_method_15_code 6 (some .int) :: ws) ({ frames := 0, cells := 0, slots := 0, locals := 0 } : Room)) (fun a U => a = #[(.ref nn), (.int 0), .null, (.ref tx)] ∧ Z.Warmed39 U.vm ∧ U.heap = h0) (fun _ _ _ _ _ => True) (fun _ U o U' => ∃ v L, o = .returned v ∧ Q_pos Z nn tx h0 n0 v U'.heap L ∧ FrameEnd U o U' L ({ frames := 0, cells := 0, slots := 0, locals := 0 } : Room).cells ({ frames := 0, cells := 0, slots := 0, locals := 0 } : Room).slots) := by
  refine MetFree.of_bodySF (plainFor_of_name pn_com_example_nudge_nudge_tree_Node) hisR ?_
  intro p e s m args below meth c s₁ Bd hml0 hP hK
  obtain ⟨rfl, hZ, hh⟩ := hP
  have hx := Bd.exec
  have hby := Bd.bytes
  have hml : c.maxLocals = 6 := hml0
  have hown : s.vm.findClass "com/example/nudge/nudge/tree/Node" = some m.cls := findClass_of_methodNamed Bd.named
  have hnm := (name_of_methodNamed Bd.named Bd.method).1
  have X0 : Stand p l e ({ frames := 0, cells := 0, slots := 0, locals := 0 } : Room) s m #[(.ref nn), (.int 0), .null, (.ref tx)] below meth c s₁ [] 0 0 := Stand.of_body Bd
  have e0 : s₁.heap = h0 := by rw [← hh, Bd.state]; rfl
  have N0 := Fr.nil n0
  refine go_st (fun t k => castTop (ef_pos m nn (0 : Int32) tx) k) ?_
  show Go _ _ _ _ (s₁.setTop (mkF m 0 #[rv nn, iv 0, .val .null, rv tx, .unset, .unset] []))
  refine go_st (fun t k => XS.iconst X0.here hx rfl (hb hby d8_0) k) ?_
  show Go _ _ _ _ (s₁.setTop (mkF m 1 #[rv nn, iv 0, .val .null, rv tx, .unset, .unset] [(.int (-1))]))
  refine go_st (fun t k => XS.istore X0.here hx rfl (hb hby d8_1) rfl (l' := #[rv nn, iv 0, .val .null, rv tx, iv (-1), .unset]) rfl k) ?_
  show Go _ _ _ _ (s₁.setTop (mkF m 3 #[rv nn, iv 0, .val .null, rv tx, iv (-1), .unset] []))
  refine go_st (fun t k => XS.aloadN X0.here hx rfl (hb hby d8_3) rfl rfl k) ?_
  show Go _ _ _ _ (s₁.setTop (mkF m 4 #[rv nn, iv 0, .val .null, rv tx, iv (-1), .unset] [.null]))
  refine go_st (fun t k => XS.ifnullYes X0.here hx rfl (pc0 := 4) (pc' := 38) rfl (hb hby d8_4) rfl (by decide) (by decide) k) ?_
  show Go _ _ _ _ (s₁.setTop (mkF m 38 #[rv nn, iv 0, .val .null, rv tx, iv (-1), .unset] []))
  refine go_st (fun t k => XS.iconst X0.here hx rfl (hb hby d8_38) k) ?_
  show Go _ _ _ _ (s₁.setTop (mkF m 39 #[rv nn, iv 0, .val .null, rv tx, iv (-1), .unset] [(.int 0)]))
  refine go_st (fun t k => XS.istore X0.here hx rfl (hb hby d8_39) rfl (l' := #[rv nn, iv 0, .val .null, rv tx, iv (-1), iv 0]) rfl k) ?_
  show Go _ _ _ _ (s₁.setTop (mkF m 41 #[rv nn, iv 0, .val .null, rv tx, iv (-1), iv 0] []))
  refine go_st (fun t k => XS.iload X0.here hx rfl (hb hby d8_41) rfl k) ?_
  show Go _ _ _ _ (s₁.setTop (mkF m 43 #[rv nn, iv 0, .val .null, rv tx, iv (-1), iv 0] [(.int (-1))]))
  refine go_st (fun t k => XS.ifNo X0.here hx rfl (hb hby d8_43) rfl ((if0 _ _).trans (tlt ((by decide) : (-1 : Int32) < (0 : Int32))).2.1) k) ?_
  show Go _ _ _ _ (s₁.setTop (mkF m 46 #[rv nn, iv 0, .val .null, rv tx, iv (-1), iv 0] []))
  refine go_st (fun t k => XS.iload X0.here hx rfl (hb hby d8_46) rfl k) ?_
  show Go _ _ _ _ (s₁.setTop (mkF m 48 #[rv nn, iv 0, .val .null, rv tx, iv (-1), iv 0] [(.int 0)]))
  refine go_st (fun t k => XS.iloadN X0.here hx rfl (hb hby d8_48) rfl k) ?_
  show Go _ _ _ _ (s₁.setTop (mkF m 49 #[rv nn, iv 0, .val .null, rv tx, iv (-1), iv 0] [(.int 0), (.int 0)]))
  refine go_st (fun t k => XS.icmpYes X0.here hx rfl (pc0 := 49) (pc' := 73) rfl (hb hby d8_49) rfl (flt ((by decide) : ¬ ((0 : Int32) < (0 : Int32)))).2.1 (by decide) (by decide) k) ?_
  show Go _ _ _ _ (s₁.setTop (mkF m 73 #[rv nn, iv 0, .val .null, rv tx, iv (-1), iv 0] []))
  refine go_st (fun t k => XS.iload X0.here hx rfl (hb hby d8_73) rfl k) ?_
  show Go _ _ _ _ (s₁.setTop (mkF m 75 #[rv nn, iv 0, .val .null, rv tx, iv (-1), iv 0] [(.int (-1))]))
  obtain ⟨fs, hr, hrun, hended, hW, hsame⟩ := X0.leave (v := some (.int (-1))) (fun h => by rw [Bd.returns] at h; cases h)
  refine ⟨_, _, ?_, hrun, hended, _, _, rfl, ?_, ⟨_, rfl⟩, hW, hsame.mono (by decide) (by decide)⟩
  · exact retI X0 hx Bd.returns (hb hby d8_75) hr
  · show Q_pos _ _ _ _ _ _ s₁.heap _
    rw [e0]
    exact ⟨rfl, N0, rfl⟩
def Q_getn (Z : State) (a1 : Addr) (tx : Addr) (nn : Addr) (kn : ClassId) (h0 : Heap) (n0 : Nat) (vR : Option Value) (h : Heap) (L : List Loc) : Prop := vR = some .null ∧ Fr n0 L ∧ h = h0
theorem ef_getn (m : MethodId) (x0 : Addr) (x1 : Addr) : entryFrame m #[(.ref x0), (.ref x1)] 3 = mkF m 0 #[.val (.ref x0), .val (.ref x1), .unset] [] := by first | (simp [entryFrame, mkF, argsToLocals, Value.category]; done) | rfl
set_option maxRecDepth 65536 in
set_option maxHeartbeats 40000000 in
theorem rm_getn (l : Launch) (Z : State) (a0 : Array Value) (hw : ∀ d ∈ tables_1, d.before a0 Z = true) (ws : List Jvm.Cond) (a1 : Addr) (tx : Addr) (nn : Addr) (kn : ClassId) (h0 : Heap) (n0 : Nat) (Z0 : n0 ≤ h0.size) (H0 : Fld Z h0 a1 "com/example/nudge/nudge/tree/Node" "names" "[Ljava/lang/String;" (.ref nn)) (H1 : Fld Z h0 a1 "com/example/nudge/nudge/tree/Node" "positions" "Ljava/util/Map;" .null) (H2 : Arv Z h0 nn kn (.object "java/lang/String") (0 : Int32) [] .null) :
    MetFree l (⟨"com/example/nudge/nudge/tree/Node", "get", "(Ljava/lang/String;)Lcom/example/nudge/nudge/tree/Node;"⟩ : MethodName) (head1 (Jvm.Cond.code (⟨"com/example/nudge/nudge/tree/Node", "get", "(Ljava/lang/String;)Lcom/example/nudge/nudge/tree/Node;"⟩ : MethodName) prog_21_method_6_code 3 (some (.object "com/example/nudge/nudge/tree/Node")) :: ws) ({ frames := 1, cells := 0, slots := 0, locals := 17 } : Room)) (fun a U => a = #[(.ref a1), (.ref tx)] ∧ Z.Warmed39 U.vm ∧ U.heap = h0) (fun _ _ _ _ _ => True) (fun _ U o U' => ∃ v L, o = .returned v ∧ Q_getn Z a1 tx nn kn h0 n0 v U'.heap L ∧ FrameEnd U o U' L ({ frames := 1, cells := 0, slots := 0, locals := 17 } : Room).cells ({ frames := 1, cells := 0, slots := 0, locals := 17 } : Room).slots) := by
  refine MetFree.of_bodySF (plainFor_of_name pn_com_example_nudge_nudge_tree_Node) hisR ?_
  intro p e s m args below meth c s₁ Bd hml0 hP hK
  obtain ⟨rfl, hZ, hh⟩ := hP
  have hx := Bd.exec
  have hby := Bd.bytes
  have hml : c.maxLocals = 3 := hml0
  have hown : s.vm.findClass "com/example/nudge/nudge/tree/Node" = some m.cls := findClass_of_methodNamed Bd.named
  have hnm := (name_of_methodNamed Bd.named Bd.method).1
  have X0 : Stand p l e ({ frames := 1, cells := 0, slots := 0, locals := 17 } : Room) s m #[(.ref a1), (.ref tx)] below meth c s₁ [] 0 0 := Stand.of_body Bd
  have e0 : s₁.heap = h0 := by rw [← hh, Bd.state]; rfl
  have N0 := Fr.nil n0
  refine go_st (fun t k => castTop (ef_getn m a1 tx) k) ?_
  show Go _ _ _ _ (s₁.setTop (mkF m 0 #[rv a1, rv tx, .unset] []))
  refine go_st (fun t k => XS.aloadN X0.here hx rfl (hb hby d9_0) rfl rfl k) ?_
  show Go _ _ _ _ (s₁.setTop (mkF m 1 #[rv a1, rv tx, .unset] [(.ref a1)]))
  obtain ⟨T1, X1, e1, st1⟩ := getF X0 hx hZ hown (host := "") (Or.inl (w61 hw)) Via.refl e0 H0 (g := (mkF m 1 #[rv a1, rv tx, .unset] [(.ref a1)])) rfl rfl (hb hby d9_1)
  refine go_st (fun t k => st1 t k) ?_
  show Go _ _ _ _ (T1.setTop (mkF m 4 #[rv a1, rv tx, .unset] [(.ref nn)]))
  refine go_st (fun t k => XS.aloadN X1.here hx rfl (hb hby d9_4) rfl rfl k) ?_
  show Go _ _ _ _ (T1.setTop (mkF m 5 #[rv a1, rv tx, .unset] [(.ref a1), (.ref nn)]))
  obtain ⟨T2, X2, e2, st2⟩ := getF X1 hx hZ hown (host := "") (Or.inl (w61 hw)) Via.refl e1 H0 (g := (mkF m 5 #[rv a1, rv tx, .unset] [(.ref a1), (.ref nn)])) rfl rfl (hb hby d9_5)
  refine go_st (fun t k => st2 t k) ?_
  show Go _ _ _ _ (T2.setTop (mkF m 8 #[rv a1, rv tx, .unset] [(.ref nn), (.ref nn)]))
  obtain ⟨zc3, zA3, zq3, zS3, zN3, zH3, zG3⟩ := id H2
  refine go_st (fun t k => X2.arraylength hx (by rw [e2]; exact zA3.1) (State.isArrayOf_alike hZ.alike zA3.2.1) (g := (mkF m 8 #[rv a1, rv tx, .unset] [(.ref nn), (.ref nn)])) rfl rfl (hb hby d9_8) t k) ?_
  rw [len_of zS3 zN3]
  show Go _ _ _ _ (T2.setTop (mkF m 9 #[rv a1, rv tx, .unset] [(.int 0), (.ref nn)]))
  refine go_st (fun t k => XS.aloadN X2.here hx rfl (hb hby d9_9) rfl rfl k) ?_
  show Go _ _ _ _ (T2.setTop (mkF m 10 #[rv a1, rv tx, .unset] [(.ref a1), (.int 0), (.ref nn)]))
  obtain ⟨T4, X4, e4, st4⟩ := getF X2 hx hZ hown (host := "") (Or.inl (w67 hw)) Via.refl e2 H1 (g := (mkF m 10 #[rv a1, rv tx, .unset] [(.ref a1), (.int 0), (.ref nn)])) rfl rfl (hb hby d9_10)
  refine go_st (fun t k => st4 t k) ?_
  show Go _ _ _ _ (T4.setTop (mkF m 13 #[rv a1, rv tx, .unset] [.null, (.int 0), (.ref nn)]))
  refine go_st (fun t k => XS.aloadN X4.here hx rfl (hb hby d9_13) rfl rfl k) ?_
  show Go _ _ _ _ (T4.setTop (mkF m 14 #[rv a1, rv tx, .unset] [(.ref tx), .null, (.int 0), (.ref nn)]))
  obtain ⟨_, _, ⟨T5, L5, kk5, nn5⟩, -, X5, ⟨Lc5, hQ5, lq5, yq5, zq5⟩, st5⟩ := Jvm.LawKit.callS X4 hx (y := (⟨"com/example/nudge/nudge/tree/Node", "position", "([Ljava/lang/String;ILjava/util/Map;Ljava/lang/String;)I"⟩ : MethodName)) hown (mvT hZ (w94 hw)) (mvT hZ (w95 hw)) (mvT hZ (w39 hw)) (mvT hZ (w96 hw)) (by decide) (backOf (W := 0) (rm_pos l Z a0 hw [] nn tx h0 n0 (Nat.le_trans Z0 (Nat.le_refl _)) ) hZ (w96 hw) (w39 hw) (by decide) (by decide)) (g := (mkF m 14 #[rv a1, rv tx, .unset] [(.ref tx), .null, (.int 0), (.ref nn)])) rfl (by rw [hml]; rfl) (argsL := [(.ref nn), (.int 0), .null, (.ref tx)]) (rest := []) (lenOf pd_2 rfl) rfl (by show 2 * 0 + _ ≤ _; exact Nat.le_of_eq rfl) (hb hby d9_14) (fun _ _ => ⟨rfl, e4, (by decide : 0 + 0 ≤ _), (by decide : 0 + 0 ≤ _)⟩)
  dsimp only [Pt.U, Pt.locs, Pt.cells, Pt.slots] at X5 lq5 yq5 zq5 st5 hQ5
  subst lq5 yq5 zq5
  obtain ⟨h5, e5⟩ : ∃ z, T5.heap = z := ⟨_, rfl⟩
  rw [e5] at hQ5
  obtain ⟨rfl, N5q, he5⟩ := hQ5
  have N5 := Fr.app N0 N5q
  rw [he5] at e5
  refine go_st st5 ?_
  show Go _ _ _ _ (T5.setTop (mkF m 17 #[rv a1, rv tx, .unset] [(.int (-1))]))
  refine go_st (fun t k => XS.istoreN X5.here hx rfl (hb hby d9_17) rfl (l' := #[rv a1, rv tx, iv (-1)]) rfl k) ?_
  show Go _ _ _ _ (T5.setTop (mkF m 18 #[rv a1, rv tx, iv (-1)] []))
  refine go_st (fun t k => XS.iloadN X5.here hx rfl (hb hby d9_18) rfl k) ?_
  show Go _ _ _ _ (T5.setTop (mkF m 19 #[rv a1, rv tx, iv (-1)] [(.int (-1))]))
  refine go_st (fun t k => XS.ifNo X5.here hx rfl (hb hby d9_19) rfl ((if0 _ _).trans (tlt ((by decide) : (-1 : Int32) < (0 : Int32))).2.1) k) ?_
  show Go _ _ _ _ (T5.setTop (mkF m 22 #[rv a1, rv tx, iv (-1)] []))
  refine go_st (fun t k => XS.aconstNull X5.here hx rfl (hb hby d9_22) k) ?_
  show Go _ _ _ _ (T5.setTop (mkF m 23 #[rv a1, rv tx, iv (-1)] [.null]))
  refine go_st (fun t k => XS.goto X5.here hx rfl (pc0 := 23) (pc' := 32) rfl (hb hby d9_23) (by decide) (by decide) k) ?_
  show Go _ _ _ _ (T5.setTop (mkF m 32 #[rv a1, rv tx, iv (-1)] [.null]))
  obtain ⟨fs, hr, hrun, hended, hW, hsame⟩ := X5.leave (v := some .null) (fun h => by rw [Bd.returns] at h; cases h)
  refine ⟨_, _, ?_, hrun, hended, _, _, rfl, ?_, ⟨_, rfl⟩, hW, hsame.mono (by decide) (by decide)⟩
  · exact retOut X5 hx Bd.returns rfl (Or.inr (Or.inr (Or.inr (Or.inr ⟨rfl, rfl, rfl⟩)))) (hb hby d9_32) hr
  · show Q_getn _ _ _ _ _ _ _ _ T5.heap _
    rw [e5]
    exact ⟨rfl, N5, rfl⟩
def Q_isS0 (Z : State) (a1 : Addr) (tx : Addr) (kd : Addr) (gS : Addr) (h0 : Heap) (n0 : Nat) (vR : Option Value) (h : Heap) (L : List Loc) : Prop := vR = some (.int 0) ∧ Fr n0 L ∧ h = h0
theorem ef_isS0 (m : MethodId) (x0 : Addr) (x1 : Addr) : entryFrame m #[(.ref x0), (.ref x1)] 2 = mkF m 0 #[.val (.ref x0), .val (.ref x1)] [] := by first | (simp [entryFrame, mkF, argsToLocals, Value.category]; done) | rfl
set_option maxRecDepth 65536 in
set_option maxHeartbeats 40000000 in
theorem rm_isS0 (l : Launch) (Z : State) (a0 : Array Value) (hw : ∀ d ∈ tables_1, d.before a0 Z = true) (ws : List Jvm.Cond) (a1 : Addr) (tx : Addr) (kd : Addr) (gS : Addr) (h0 : Heap) (n0 : Nat) (Z0 : n0 ≤ h0.size) (H0 : Exa Z h0 a1 "com/example/nudge/nudge/tree/Node") (H1 : Exa Z h0 tx "java/lang/String") (H2 : Fld Z h0 a1 "com/example/nudge/nudge/tree/Node" "kind" "Lcom/example/nudge/nudge/tree/Node$Kind;" (.ref kd)) (H3 : Fld Z h0 a1 "com/example/nudge/nudge/tree/Node" "text" "Ljava/lang/String;" (.ref tx)) (GSS : Sta Z Z.heap "com/example/nudge/nudge/tree/Node$Kind" "STRING" "Lcom/example/nudge/nudge/tree/Node$Kind;" (.ref gS)) (hk : kd ≠ gS) (O0 : Old Z n0 h0) :
    MetFree l (⟨"com/example/nudge/nudge/tree/Node", "isString", "(Lcom/example/nudge/nudge/tree/Node;Ljava/lang/String;)Z"⟩ : MethodName) (head1 (Jvm.Cond.code (⟨"com/example/nudge/nudge/tree/Node", "isString", "(Lcom/example/nudge/nudge/tree/Node;Ljava/lang/String;)Z"⟩ : MethodName) prog_21_method_19_code 2 (some .boolean) :: ws) ({ frames := 1, cells := 0, slots := 0, locals := 12 } : Room)) (fun a U => a = #[(.ref a1), (.ref tx)] ∧ Z.Warmed39 U.vm ∧ U.heap = h0) (fun _ _ _ _ _ => True) (fun _ U o U' => ∃ v L, o = .returned v ∧ Q_isS0 Z a1 tx kd gS h0 n0 v U'.heap L ∧ FrameEnd U o U' L ({ frames := 1, cells := 0, slots := 0, locals := 12 } : Room).cells ({ frames := 1, cells := 0, slots := 0, locals := 12 } : Room).slots) := by
  refine MetFree.of_bodySF (plainFor_of_name pn_com_example_nudge_nudge_tree_Node) hisR ?_
  intro p e s m args below meth c s₁ Bd hml0 hP hK
  obtain ⟨rfl, hZ, hh⟩ := hP
  have hx := Bd.exec
  have hby := Bd.bytes
  have hml : c.maxLocals = 2 := hml0
  have hown : s.vm.findClass "com/example/nudge/nudge/tree/Node" = some m.cls := findClass_of_methodNamed Bd.named
  have hnm := (name_of_methodNamed Bd.named Bd.method).1
  have X0 : Stand p l e ({ frames := 1, cells := 0, slots := 0, locals := 12 } : Room) s m #[(.ref a1), (.ref tx)] below meth c s₁ [] 0 0 := Stand.of_body Bd
  have e0 : s₁.heap = h0 := by rw [← hh, Bd.state]; rfl
  have N0 := Fr.nil n0
  refine go_st (fun t k => castTop (ef_isS0 m a1 tx) k) ?_
  show Go _ _ _ _ (s₁.setTop (mkF m 0 #[rv a1, rv tx] []))
  refine go_st (fun t k => XS.aloadN X0.here hx rfl (hb hby d10_0) rfl rfl k) ?_
  show Go _ _ _ _ (s₁.setTop (mkF m 1 #[rv a1, rv tx] [(.ref a1)]))
  refine go_st (fun t k => XS.ifnullNo X0.here hx rfl (hb hby d10_1) rfl k) ?_
  show Go _ _ _ _ (s₁.setTop (mkF m 4 #[rv a1, rv tx] []))
  refine go_st (fun t k => XS.aloadN X0.here hx rfl (hb hby d10_4) rfl rfl k) ?_
  show Go _ _ _ _ (s₁.setTop (mkF m 5 #[rv a1, rv tx] [(.ref a1)]))
  obtain ⟨cq1, kq1, q1a, q1b, q1c⟩ := isOf hZ e0 H0
  obtain ⟨_, _, ⟨T1, L1, kk1, nn1⟩, -, X1, ⟨Lc1, hQ1, lq1, yq1, zq1⟩, st1⟩ := X0.virtualBack hx (y := (⟨"com/example/nudge/nudge/tree/Node", "kind", "()Lcom/example/nudge/nudge/tree/Node$Kind;"⟩ : MethodName)) (z := (⟨"com/example/nudge/nudge/tree/Node", "kind", "()Lcom/example/nudge/nudge/tree/Node$Kind;"⟩ : MethodName)) hown (mvT hZ (w100 hw)) (mvT hZ (w70 hw)) (notFace_of_selects (args := #[]) (mvT hZ (w72 hw))) (mvT hZ (w72 hw)) (mvT hZ (w71 hw)) (by decide) (backOf (W := 0) (rm_get_kind l Z a0 hw [] a1 kd h0 n0 (Nat.le_trans Z0 (Nat.le_refl _)) H2) hZ (w73 hw) (w39 hw) (by decide) (by decide)) q1a q1c (g := (mkF m 5 #[rv a1, rv tx] [(.ref a1)])) rfl (by rw [hml]; rfl) (Steps.refl _) (argsL := []) (rest := []) (lenOf pd_3 rfl) rfl (by show 2 * 0 + _ ≤ _; exact Nat.le_of_eq rfl) (hb hby d10_5) (fun _ _ => ⟨rfl, e0, (by decide : 0 + 0 ≤ _), (by decide : 0 + 0 ≤ _)⟩)
  dsimp only [Pt.U, Pt.locs, Pt.cells, Pt.slots] at X1 lq1 yq1 zq1 st1 hQ1
  subst lq1 yq1 zq1
  obtain ⟨h1, e1⟩ : ∃ z, T1.heap = z := ⟨_, rfl⟩
  rw [e1] at hQ1
  obtain ⟨rfl, N1q, he1⟩ := hQ1
  have N1 := Fr.app N0 N1q
  rw [he1] at e1
  refine go_tr st1 ?_
  show Go _ _ _ _ (T1.setTop (mkF m 8 #[rv a1, rv tx] [(.ref kd)]))
  obtain ⟨T2, X2, e2, st2⟩ := getS2 X1 hx hZ hown (host := "") (Or.inl (w101 hw)) Via.refl e1 (Sta.ext O0.2 GSS) (g := (mkF m 8 #[rv a1, rv tx] [(.ref kd)])) rfl (hb hby d10_8)
  refine go_st (fun t k => st2 t k) ?_
  show Go _ _ _ _ (T2.setTop (mkF m 11 #[rv a1, rv tx] [(.ref gS), (.ref kd)]))
  refine go_st (fun t k => Jvm.RoadKit.acmp (g := (mkF m 11 #[rv a1, rv tx] [(.ref gS), (.ref kd)])) X2 hx rfl rfl rfl (pc0 := 11) (pc' := 29) (same := false) rfl (hb hby d10_11) rfl (decide_eq_false fun q => hk (Value.ref.inj q)) (by decide) (by decide) k) ?_
  show Go _ _ _ _ (T2.setTop (mkF m 29 #[rv a1, rv tx] []))
  refine go_st (fun t k => XS.iconst X2.here hx rfl (hb hby d10_29) k) ?_
  show Go _ _ _ _ (T2.setTop (mkF m 30 #[rv a1, rv tx] [(.int 0)]))
  obtain ⟨fs, hr, hrun, hended, hW, hsame⟩ := X2.leave (v := some (.int 0)) (fun h => by rw [Bd.returns] at h; cases h)
  refine ⟨_, _, ?_, hrun, hended, _, _, rfl, ?_, ⟨_, rfl⟩, hW, hsame.mono (by decide) (by decide)⟩
  · exact retN X2 hx (t := .boolean) Bd.returns (by simp) (hb hby d10_30) hr
  · show Q_isS0 _ _ _ _ _ _ _ _ T2.heap _
    rw [e2]
    exact ⟨rfl, N1, rfl⟩
def Q_isS1 (Z : State) (a1 : Addr) (tx : Addr) (kd : Addr) (gS : Addr) (h0 : Heap) (n0 : Nat) (vR : Option Value) (h : Heap) (L : List Loc) : Prop := vR = some (.int 1) ∧ Fr n0 L ∧ h = h0
theorem ef_isS1 (m : MethodId) (x0 : Addr) (x1 : Addr) : entryFrame m #[(.ref x0), (.ref x1)] 2 = mkF m 0 #[.val (.ref x0), .val (.ref x1)] [] := by first | (simp [entryFrame, mkF, argsToLocals, Value.category]; done) | rfl
set_option maxRecDepth 65536 in
set_option maxHeartbeats 40000000 in
theorem rm_isS1 (l : Launch) (Z : State) (a0 : Array Value) (hw : ∀ d ∈ tables_1, d.before a0 Z = true) (ws : List Jvm.Cond) (a1 : Addr) (tx : Addr) (kd : Addr) (gS : Addr) (h0 : Heap) (n0 : Nat) (Z0 : n0 ≤ h0.size) (H0 : Exa Z h0 a1 "com/example/nudge/nudge/tree/Node") (H1 : Exa Z h0 tx "java/lang/String") (H2 : Fld Z h0 a1 "com/example/nudge/nudge/tree/Node" "kind" "Lcom/example/nudge/nudge/tree/Node$Kind;" (.ref kd)) (H3 : Fld Z h0 a1 "com/example/nudge/nudge/tree/Node" "text" "Ljava/lang/String;" (.ref tx)) (GSS : Sta Z Z.heap "com/example/nudge/nudge/tree/Node$Kind" "STRING" "Lcom/example/nudge/nudge/tree/Node$Kind;" (.ref gS)) (hk : kd = gS) (O0 : Old Z n0 h0) :
    MetFree l (⟨"com/example/nudge/nudge/tree/Node", "isString", "(Lcom/example/nudge/nudge/tree/Node;Ljava/lang/String;)Z"⟩ : MethodName) (head1 (Jvm.Cond.code (⟨"com/example/nudge/nudge/tree/Node", "isString", "(Lcom/example/nudge/nudge/tree/Node;Ljava/lang/String;)Z"⟩ : MethodName) prog_21_method_19_code 2 (some .boolean) :: ws) ({ frames := 1, cells := 0, slots := 0, locals := 14 } : Room)) (fun a U => a = #[(.ref a1), (.ref tx)] ∧ Z.Warmed39 U.vm ∧ U.heap = h0) (fun _ _ _ _ _ => True) (fun _ U o U' => ∃ v L, o = .returned v ∧ Q_isS1 Z a1 tx kd gS h0 n0 v U'.heap L ∧ FrameEnd U o U' L ({ frames := 1, cells := 0, slots := 0, locals := 14 } : Room).cells ({ frames := 1, cells := 0, slots := 0, locals := 14 } : Room).slots) := by
  refine MetFree.of_bodySF (plainFor_of_name pn_com_example_nudge_nudge_tree_Node) hisR ?_
  intro p e s m args below meth c s₁ Bd hml0 hP hK
  obtain ⟨rfl, hZ, hh⟩ := hP
  have hx := Bd.exec
  have hby := Bd.bytes
  have hml : c.maxLocals = 2 := hml0
  have hown : s.vm.findClass "com/example/nudge/nudge/tree/Node" = some m.cls := findClass_of_methodNamed Bd.named
  have hnm := (name_of_methodNamed Bd.named Bd.method).1
  have X0 : Stand p l e ({ frames := 1, cells := 0, slots := 0, locals := 14 } : Room) s m #[(.ref a1), (.ref tx)] below meth c s₁ [] 0 0 := Stand.of_body Bd
  have e0 : s₁.heap = h0 := by rw [← hh, Bd.state]; rfl
  have N0 := Fr.nil n0
  refine go_st (fun t k => castTop (ef_isS1 m a1 tx) k) ?_
  show Go _ _ _ _ (s₁.setTop (mkF m 0 #[rv a1, rv tx] []))
  refine go_st (fun t k => XS.aloadN X0.here hx rfl (hb hby d10_0) rfl rfl k) ?_
  show Go _ _ _ _ (s₁.setTop (mkF m 1 #[rv a1, rv tx] [(.ref a1)]))
  refine go_st (fun t k => XS.ifnullNo X0.here hx rfl (hb hby d10_1) rfl k) ?_
  show Go _ _ _ _ (s₁.setTop (mkF m 4 #[rv a1, rv tx] []))
  refine go_st (fun t k => XS.aloadN X0.here hx rfl (hb hby d10_4) rfl rfl k) ?_
  show Go _ _ _ _ (s₁.setTop (mkF m 5 #[rv a1, rv tx] [(.ref a1)]))
  obtain ⟨cq1, kq1, q1a, q1b, q1c⟩ := isOf hZ e0 H0
  obtain ⟨_, _, ⟨T1, L1, kk1, nn1⟩, -, X1, ⟨Lc1, hQ1, lq1, yq1, zq1⟩, st1⟩ := X0.virtualBack hx (y := (⟨"com/example/nudge/nudge/tree/Node", "kind", "()Lcom/example/nudge/nudge/tree/Node$Kind;"⟩ : MethodName)) (z := (⟨"com/example/nudge/nudge/tree/Node", "kind", "()Lcom/example/nudge/nudge/tree/Node$Kind;"⟩ : MethodName)) hown (mvT hZ (w100 hw)) (mvT hZ (w70 hw)) (notFace_of_selects (args := #[]) (mvT hZ (w72 hw))) (mvT hZ (w72 hw)) (mvT hZ (w71 hw)) (by decide) (backOf (W := 0) (rm_get_kind l Z a0 hw [] a1 kd h0 n0 (Nat.le_trans Z0 (Nat.le_refl _)) H2) hZ (w73 hw) (w39 hw) (by decide) (by decide)) q1a q1c (g := (mkF m 5 #[rv a1, rv tx] [(.ref a1)])) rfl (by rw [hml]; rfl) (Steps.refl _) (argsL := []) (rest := []) (lenOf pd_3 rfl) rfl (by show 2 * 0 + _ ≤ _; exact Nat.le_of_eq rfl) (hb hby d10_5) (fun _ _ => ⟨rfl, e0, (by decide : 0 + 0 ≤ _), (by decide : 0 + 0 ≤ _)⟩)
  dsimp only [Pt.U, Pt.locs, Pt.cells, Pt.slots] at X1 lq1 yq1 zq1 st1 hQ1
  subst lq1 yq1 zq1
  obtain ⟨h1, e1⟩ : ∃ z, T1.heap = z := ⟨_, rfl⟩
  rw [e1] at hQ1
  obtain ⟨rfl, N1q, he1⟩ := hQ1
  have N1 := Fr.app N0 N1q
  rw [he1] at e1
  refine go_tr st1 ?_
  show Go _ _ _ _ (T1.setTop (mkF m 8 #[rv a1, rv tx] [(.ref kd)]))
  obtain ⟨T2, X2, e2, st2⟩ := getS2 X1 hx hZ hown (host := "") (Or.inl (w101 hw)) Via.refl e1 (Sta.ext O0.2 GSS) (g := (mkF m 8 #[rv a1, rv tx] [(.ref kd)])) rfl (hb hby d10_8)
  refine go_st (fun t k => st2 t k) ?_
  show Go _ _ _ _ (T2.setTop (mkF m 11 #[rv a1, rv tx] [(.ref gS), (.ref kd)]))
  refine go_st (fun t k => Jvm.RoadKit.acmp (g := (mkF m 11 #[rv a1, rv tx] [(.ref gS), (.ref kd)])) X2 hx rfl rfl rfl (pc0 := 11) (pc' := 14) (same := true) rfl (hb hby d10_11) rfl (decide_eq_true (congrArg Value.ref hk)) (by decide) (by decide) k) ?_
  show Go _ _ _ _ (T2.setTop (mkF m 14 #[rv a1, rv tx] []))
  refine go_st (fun t k => XS.aloadN X2.here hx rfl (hb hby d10_14) rfl rfl k) ?_
  show Go _ _ _ _ (T2.setTop (mkF m 15 #[rv a1, rv tx] [(.ref a1)]))
  obtain ⟨cq3, kq3, q3a, q3b, q3c⟩ := isOf hZ e2 H0
  obtain ⟨_, _, ⟨T3, L3, kk3, nn3⟩, -, X3, ⟨Lc3, hQ3, lq3, yq3, zq3⟩, st3⟩ := X2.virtualBack hx (y := (⟨"com/example/nudge/nudge/tree/Node", "text", "()Ljava/lang/String;"⟩ : MethodName)) (z := (⟨"com/example/nudge/nudge/tree/Node", "text", "()Ljava/lang/String;"⟩ : MethodName)) hown (mvT hZ (w102 hw)) (mvT hZ (w75 hw)) (notFace_of_selects (args := #[]) (mvT hZ (w77 hw))) (mvT hZ (w77 hw)) (mvT hZ (w76 hw)) (by decide) (backOf (W := 0) (rm_get_text l Z a0 hw [] a1 tx h0 n0 (Nat.le_trans Z0 (Nat.le_refl _)) H3) hZ (w78 hw) (w39 hw) (by decide) (by decide)) q3a q3c (g := (mkF m 15 #[rv a1, rv tx] [(.ref a1)])) rfl (by rw [hml]; rfl) (Steps.refl _) (argsL := []) (rest := []) (lenOf pd_4 rfl) rfl (by show 2 * 0 + _ ≤ _; exact Nat.le_of_eq rfl) (hb hby d10_15) (fun _ _ => ⟨rfl, e2, (by decide : 0 + 0 ≤ _), (by decide : 0 + 0 ≤ _)⟩)
  dsimp only [Pt.U, Pt.locs, Pt.cells, Pt.slots] at X3 lq3 yq3 zq3 st3 hQ3
  subst lq3 yq3 zq3
  obtain ⟨h3, e3⟩ : ∃ z, T3.heap = z := ⟨_, rfl⟩
  rw [e3] at hQ3
  obtain ⟨rfl, N3q, he3⟩ := hQ3
  have N3 := Fr.app N1 N3q
  rw [he3] at e3
  refine go_tr st3 ?_
  show Go _ _ _ _ (T3.setTop (mkF m 18 #[rv a1, rv tx] [(.ref tx)]))
  refine go_st (fun t k => XS.aloadN X3.here hx rfl (hb hby d10_18) rfl rfl k) ?_
  show Go _ _ _ _ (T3.setTop (mkF m 19 #[rv a1, rv tx] [(.ref tx), (.ref tx)]))
  obtain ⟨cq4, kq4, q4a, q4b, q4c⟩ := isOf hZ e3 H1
  obtain ⟨_, _, ⟨T4, L4, kk4, nn4⟩, -, X4, ⟨Lc4, hQ4, lq4, yq4, zq4⟩, st4⟩ := X3.virtualBack hx (y := (⟨"java/lang/String", "equals", "(Ljava/lang/Object;)Z"⟩ : MethodName)) (z := (⟨"java/lang/String", "equals", "(Ljava/lang/Object;)Z"⟩ : MethodName)) hown (mvT hZ (w103 hw)) (mvT hZ (w80 hw)) (notFace_of_selects (args := #[]) (mvT hZ (w82 hw))) (mvT hZ (w82 hw)) (mvT hZ (w81 hw)) (by decide) (backOf (W := 0) (rm_eqsame l Z a0 hw [] tx h0 n0 (Nat.le_trans Z0 (Nat.le_refl _)) ) hZ (w83 hw) (w10 hw) (by decide) (by decide)) q4a q4c (g := (mkF m 19 #[rv a1, rv tx] [(.ref tx), (.ref tx)])) rfl (by rw [hml]; rfl) (Steps.refl _) (argsL := [(.ref tx)]) (rest := []) (lenOf pd_5 rfl) rfl (by show 2 * 0 + _ ≤ _; exact Nat.le_of_eq rfl) (hb hby d10_19) (fun _ _ => ⟨rfl, e3, (by decide : 0 + 0 ≤ _), (by decide : 0 + 0 ≤ _)⟩)
  dsimp only [Pt.U, Pt.locs, Pt.cells, Pt.slots] at X4 lq4 yq4 zq4 st4 hQ4
  subst lq4 yq4 zq4
  obtain ⟨h4, e4⟩ : ∃ z, T4.heap = z := ⟨_, rfl⟩
  rw [e4] at hQ4
  obtain ⟨rfl, N4q, he4⟩ := hQ4
  have N4 := Fr.app N3 N4q
  rw [he4] at e4
  refine go_tr st4 ?_
  show Go _ _ _ _ (T4.setTop (mkF m 22 #[rv a1, rv tx] [(.int 1)]))
  refine go_st (fun t k => XS.ifNo X4.here hx rfl (hb hby d10_22) rfl ((if0 _ _).trans (feq ((by decide) : ¬ ((1 : Int32) = (0 : Int32)))).1) k) ?_
  show Go _ _ _ _ (T4.setTop (mkF m 25 #[rv a1, rv tx] []))
  refine go_st (fun t k => XS.iconst X4.here hx rfl (hb hby d10_25) k) ?_
  show Go _ _ _ _ (T4.setTop (mkF m 26 #[rv a1, rv tx] [(.int 1)]))
  refine go_st (fun t k => XS.goto X4.here hx rfl (pc0 := 26) (pc' := 30) rfl (hb hby d10_26) (by decide) (by decide) k) ?_
  show Go _ _ _ _ (T4.setTop (mkF m 30 #[rv a1, rv tx] [(.int 1)]))
  obtain ⟨fs, hr, hrun, hended, hW, hsame⟩ := X4.leave (v := some (.int 1)) (fun h => by rw [Bd.returns] at h; cases h)
  refine ⟨_, _, ?_, hrun, hended, _, _, rfl, ?_, ⟨_, rfl⟩, hW, hsame.mono (by decide) (by decide)⟩
  · exact retN X4 hx (t := .boolean) Bd.returns (by simp) (hb hby d10_30) hr
  · show Q_isS1 _ _ _ _ _ _ _ _ T4.heap _
    rw [e4]
    exact ⟨rfl, N4, rfl⟩
def Q_isT0 (Z : State) (a1 : Addr) (kd : Addr) (gB : Addr) (h0 : Heap) (n0 : Nat) (vR : Option Value) (h : Heap) (L : List Loc) : Prop := vR = some (.int 0) ∧ Fr n0 L ∧ h = h0
theorem ef_isT0 (m : MethodId) (x0 : Addr) : entryFrame m #[(.ref x0)] 1 = mkF m 0 #[.val (.ref x0)] [] := by first | (simp [entryFrame, mkF, argsToLocals, Value.category]; done) | rfl
set_option maxRecDepth 65536 in
set_option maxHeartbeats 40000000 in
theorem rm_isT0 (l : Launch) (Z : State) (a0 : Array Value) (hw : ∀ d ∈ tables_1, d.before a0 Z = true) (ws : List Jvm.Cond) (a1 : Addr) (kd : Addr) (gB : Addr) (h0 : Heap) (n0 : Nat) (Z0 : n0 ≤ h0.size) (H0 : Exa Z h0 a1 "com/example/nudge/nudge/tree/Node") (H1 : Fld Z h0 a1 "com/example/nudge/nudge/tree/Node" "kind" "Lcom/example/nudge/nudge/tree/Node$Kind;" (.ref kd)) (GSB : Sta Z Z.heap "com/example/nudge/nudge/tree/Node$Kind" "BOOLEAN" "Lcom/example/nudge/nudge/tree/Node$Kind;" (.ref gB)) (hk : kd ≠ gB) (O0 : Old Z n0 h0) :
    MetFree l (⟨"com/example/nudge/nudge/tree/Node", "isTrue", "(Lcom/example/nudge/nudge/tree/Node;)Z"⟩ : MethodName) (head1 (Jvm.Cond.code (⟨"com/example/nudge/nudge/tree/Node", "isTrue", "(Lcom/example/nudge/nudge/tree/Node;)Z"⟩ : MethodName) prog_21_method_20_code 1 (some .boolean) :: ws) ({ frames := 1, cells := 0, slots := 0, locals := 12 } : Room)) (fun a U => a = #[(.ref a1)] ∧ Z.Warmed39 U.vm ∧ U.heap = h0) (fun _ _ _ _ _ => True) (fun _ U o U' => ∃ v L, o = .returned v ∧ Q_isT0 Z a1 kd gB h0 n0 v U'.heap L ∧ FrameEnd U o U' L ({ frames := 1, cells := 0, slots := 0, locals := 12 } : Room).cells ({ frames := 1, cells := 0, slots := 0, locals := 12 } : Room).slots) := by
  refine MetFree.of_bodySF (plainFor_of_name pn_com_example_nudge_nudge_tree_Node) hisR ?_
  intro p e s m args below meth c s₁ Bd hml0 hP hK
  obtain ⟨rfl, hZ, hh⟩ := hP
  have hx := Bd.exec
  have hby := Bd.bytes
  have hml : c.maxLocals = 1 := hml0
  have hown : s.vm.findClass "com/example/nudge/nudge/tree/Node" = some m.cls := findClass_of_methodNamed Bd.named
  have hnm := (name_of_methodNamed Bd.named Bd.method).1
  have X0 : Stand p l e ({ frames := 1, cells := 0, slots := 0, locals := 12 } : Room) s m #[(.ref a1)] below meth c s₁ [] 0 0 := Stand.of_body Bd
  have e0 : s₁.heap = h0 := by rw [← hh, Bd.state]; rfl
  have N0 := Fr.nil n0
  refine go_st (fun t k => castTop (ef_isT0 m a1) k) ?_
  show Go _ _ _ _ (s₁.setTop (mkF m 0 #[rv a1] []))
  refine go_st (fun t k => XS.aloadN X0.here hx rfl (hb hby d11_0) rfl rfl k) ?_
  show Go _ _ _ _ (s₁.setTop (mkF m 1 #[rv a1] [(.ref a1)]))
  refine go_st (fun t k => XS.ifnullNo X0.here hx rfl (hb hby d11_1) rfl k) ?_
  show Go _ _ _ _ (s₁.setTop (mkF m 4 #[rv a1] []))
  refine go_st (fun t k => XS.aloadN X0.here hx rfl (hb hby d11_4) rfl rfl k) ?_
  show Go _ _ _ _ (s₁.setTop (mkF m 5 #[rv a1] [(.ref a1)]))
  obtain ⟨cq1, kq1, q1a, q1b, q1c⟩ := isOf hZ e0 H0
  obtain ⟨_, _, ⟨T1, L1, kk1, nn1⟩, -, X1, ⟨Lc1, hQ1, lq1, yq1, zq1⟩, st1⟩ := X0.virtualBack hx (y := (⟨"com/example/nudge/nudge/tree/Node", "kind", "()Lcom/example/nudge/nudge/tree/Node$Kind;"⟩ : MethodName)) (z := (⟨"com/example/nudge/nudge/tree/Node", "kind", "()Lcom/example/nudge/nudge/tree/Node$Kind;"⟩ : MethodName)) hown (mvT hZ (w100 hw)) (mvT hZ (w70 hw)) (notFace_of_selects (args := #[]) (mvT hZ (w72 hw))) (mvT hZ (w72 hw)) (mvT hZ (w71 hw)) (by decide) (backOf (W := 0) (rm_get_kind l Z a0 hw [] a1 kd h0 n0 (Nat.le_trans Z0 (Nat.le_refl _)) H1) hZ (w73 hw) (w39 hw) (by decide) (by decide)) q1a q1c (g := (mkF m 5 #[rv a1] [(.ref a1)])) rfl (by rw [hml]; rfl) (Steps.refl _) (argsL := []) (rest := []) (lenOf pd_3 rfl) rfl (by show 2 * 0 + _ ≤ _; exact Nat.le_of_eq rfl) (hb hby d11_5) (fun _ _ => ⟨rfl, e0, (by decide : 0 + 0 ≤ _), (by decide : 0 + 0 ≤ _)⟩)
  dsimp only [Pt.U, Pt.locs, Pt.cells, Pt.slots] at X1 lq1 yq1 zq1 st1 hQ1
  subst lq1 yq1 zq1
  obtain ⟨h1, e1⟩ : ∃ z, T1.heap = z := ⟨_, rfl⟩
  rw [e1] at hQ1
  obtain ⟨rfl, N1q, he1⟩ := hQ1
  have N1 := Fr.app N0 N1q
  rw [he1] at e1
  refine go_tr st1 ?_
  show Go _ _ _ _ (T1.setTop (mkF m 8 #[rv a1] [(.ref kd)]))
  obtain ⟨T2, X2, e2, st2⟩ := getS2 X1 hx hZ hown (host := "") (Or.inl (w107 hw)) Via.refl e1 (Sta.ext O0.2 GSB) (g := (mkF m 8 #[rv a1] [(.ref kd)])) rfl (hb hby d11_8)
  refine go_st (fun t k => st2 t k) ?_
  show Go _ _ _ _ (T2.setTop (mkF m 11 #[rv a1] [(.ref gB), (.ref kd)]))
  refine go_st (fun t k => Jvm.RoadKit.acmp (g := (mkF m 11 #[rv a1] [(.ref gB), (.ref kd)])) X2 hx rfl rfl rfl (pc0 := 11) (pc' := 30) (same := false) rfl (hb hby d11_11) rfl (decide_eq_false fun q => hk (Value.ref.inj q)) (by decide) (by decide) k) ?_
  show Go _ _ _ _ (T2.setTop (mkF m 30 #[rv a1] []))
  refine go_st (fun t k => XS.iconst X2.here hx rfl (hb hby d11_30) k) ?_
  show Go _ _ _ _ (T2.setTop (mkF m 31 #[rv a1] [(.int 0)]))
  obtain ⟨fs, hr, hrun, hended, hW, hsame⟩ := X2.leave (v := some (.int 0)) (fun h => by rw [Bd.returns] at h; cases h)
  refine ⟨_, _, ?_, hrun, hended, _, _, rfl, ?_, ⟨_, rfl⟩, hW, hsame.mono (by decide) (by decide)⟩
  · exact retN X2 hx (t := .boolean) Bd.returns (by simp) (hb hby d11_31) hr
  · show Q_isT0 _ _ _ _ _ _ _ T2.heap _
    rw [e2]
    exact ⟨rfl, N1, rfl⟩
def Q_isT1 (Z : State) (a1 : Addr) (tx : Addr) (tt : Addr) (cs : List Int32) (kd : Addr) (gB : Addr) (G1 : Int32) (h0 : Heap) (n0 : Nat) (vR : Option Value) (h : Heap) (L : List Loc) : Prop := ∃ (r : Int32), vR = some (.int r) ∧ Fr n0 L ∧ Keep h0 h [] ∧ ((r = 1 ∧ cs = trueL) ∨ (r = 0 ∧ ¬ cs = trueL))
theorem ef_isT1 (m : MethodId) (x0 : Addr) : entryFrame m #[(.ref x0)] 1 = mkF m 0 #[.val (.ref x0)] [] := by first | (simp [entryFrame, mkF, argsToLocals, Value.category]; done) | rfl
set_option maxRecDepth 65536 in
set_option maxHeartbeats 40000000 in
theorem rm_isT1 (l : Launch) (Z : State) (a0 : Array Value) (hw : ∀ d ∈ tables_1, d.before a0 Z = true) (ws : List Jvm.Cond) (a1 : Addr) (tx : Addr) (tt : Addr) (cs : List Int32) (kd : Addr) (gB : Addr) (G1 : Int32) (h0 : Heap) (n0 : Nat) (Z0 : n0 ≤ h0.size) (H0 : Exa Z h0 a1 "com/example/nudge/nudge/tree/Node") (H1 : Fld Z h0 a1 "com/example/nudge/nudge/tree/Node" "kind" "Lcom/example/nudge/nudge/tree/Node$Kind;" (.ref kd)) (H2 : Fld Z h0 a1 "com/example/nudge/nudge/tree/Node" "text" "Ljava/lang/String;" (.ref tx)) (H3 : Exa Z h0 tx "java/lang/String") (H4 : Str Z h0 tx tt cs) (GSB : Sta Z Z.heap "com/example/nudge/nudge/tree/Node$Kind" "BOOLEAN" "Lcom/example/nudge/nudge/tree/Node$Kind;" (.ref gB)) (CS : Sta Z Z.heap "java/lang/String" "COMPACT_STRINGS" "Z" (.int G1)) (CSn : ¬ (G1 = (0 : Int32))) (hk : kd = gB) (O0 : Old Z n0 h0) :
    MetFree l (⟨"com/example/nudge/nudge/tree/Node", "isTrue", "(Lcom/example/nudge/nudge/tree/Node;)Z"⟩ : MethodName) (head1 (Jvm.Cond.code (⟨"com/example/nudge/nudge/tree/Node", "isTrue", "(Lcom/example/nudge/nudge/tree/Node;)Z"⟩ : MethodName) prog_21_method_20_code 1 (some .boolean) :: ws) ({ frames := 2, cells := 2, slots := 20, locals := 28 } : Room)) (fun a U => a = #[(.ref a1)] ∧ Z.Warmed39 U.vm ∧ U.heap = h0 ∧ CHv Z consts_1 U.vm h0) (fun _ _ _ _ _ => True) (fun _ U o U' => ∃ v L, o = .returned v ∧ Q_isT1 Z a1 tx tt cs kd gB G1 h0 n0 v U'.heap L ∧ CHr Z consts_1 U.vm U.heap U'.vm U'.heap ∧ ReturnedEndW U o U' L ({ frames := 2, cells := 2, slots := 20, locals := 28 } : Room).cells ({ frames := 2, cells := 2, slots := 20, locals := 28 } : Room).slots) := by
  refine MetFree.of_bodySF (plainFor_of_name pn_com_example_nudge_nudge_tree_Node) hisR ?_
  intro p e s m args below meth c s₁ Bd hml0 hP hK
  obtain ⟨rfl, hZs, hh, HC0⟩ := hP
  have hx := Bd.exec
  have hby := Bd.bytes
  have hml : c.maxLocals = 1 := hml0
  have hZ : Z.Warmed39 (s.setVm s.vm).vm := hZs
  have hown : (s.setVm s.vm).vm.findClass "com/example/nudge/nudge/tree/Node" = some m.cls := findClass_of_methodNamed Bd.named
  have hnm := (name_of_methodNamed Bd.named Bd.method).1
  have X0 : Stand p l e ({ frames := 2, cells := 2, slots := 20, locals := 28 } : Room) (s.setVm s.vm) m #[(.ref a1)] below meth c s₁ [] 0 0 := Stand.of_body Bd
  have e0 : s₁.heap = h0 := by rw [← hh, Bd.state]; rfl
  have N0 := Fr.nil n0
  have hS0 : s.Since s.vm s.heap.size := (State.WarmedH.refl s).since _
  have hk0 : s.heap.size ≤ h0.size := Nat.le_of_eq (congrArg Array.size hh)
  have C0 : CHr Z consts_1 s.vm h0 s.vm h0 := CHr.refl HC0
  refine go_st (fun t k => castTop (ef_isT1 m a1) k) ?_
  show Go _ _ _ _ (s₁.setTop (mkF m 0 #[rv a1] []))
  refine go_st (fun t k => XS.aloadN X0.here hx rfl (hb hby d11_0) rfl rfl k) ?_
  show Go _ _ _ _ (s₁.setTop (mkF m 1 #[rv a1] [(.ref a1)]))
  refine go_st (fun t k => XS.ifnullNo X0.here hx rfl (hb hby d11_1) rfl k) ?_
  show Go _ _ _ _ (s₁.setTop (mkF m 4 #[rv a1] []))
  refine go_st (fun t k => XS.aloadN X0.here hx rfl (hb hby d11_4) rfl rfl k) ?_
  show Go _ _ _ _ (s₁.setTop (mkF m 5 #[rv a1] [(.ref a1)]))
  obtain ⟨cq1, kq1, q1a, q1b, q1c⟩ := isOf hZ e0 H0
  obtain ⟨_, _, ⟨T1, L1, kk1, nn1⟩, -, X1, ⟨Lc1, hQ1, lq1, yq1, zq1⟩, st1⟩ := X0.virtualBack hx (y := (⟨"com/example/nudge/nudge/tree/Node", "kind", "()Lcom/example/nudge/nudge/tree/Node$Kind;"⟩ : MethodName)) (z := (⟨"com/example/nudge/nudge/tree/Node", "kind", "()Lcom/example/nudge/nudge/tree/Node$Kind;"⟩ : MethodName)) hown (mvT hZ (w100 hw)) (mvT hZ (w70 hw)) (notFace_of_selects (args := #[]) (mvT hZ (w72 hw))) (mvT hZ (w72 hw)) (mvT hZ (w71 hw)) (by decide) (backOf (W := 0) (rm_get_kind l Z a0 hw [] a1 kd h0 n0 (Nat.le_trans Z0 (Nat.le_refl _)) H1) hZ (w73 hw) (w39 hw) (by decide) (by decide)) q1a q1c (g := (mkF m 5 #[rv a1] [(.ref a1)])) rfl (by rw [hml]; rfl) (Steps.refl _) (argsL := []) (rest := []) (lenOf pd_3 rfl) rfl (by show 2 * 0 + _ ≤ _; exact Nat.le_of_eq rfl) (hb hby d11_5) (fun _ _ => ⟨rfl, e0, (by decide : 0 + 0 ≤ _), (by decide : 0 + 0 ≤ _)⟩)
  dsimp only [Pt.U, Pt.locs, Pt.cells, Pt.slots] at X1 lq1 yq1 zq1 st1 hQ1
  subst lq1 yq1 zq1
  obtain ⟨h1, e1⟩ : ∃ z, T1.heap = z := ⟨_, rfl⟩
  rw [e1] at hQ1
  obtain ⟨rfl, N1q, he1⟩ := hQ1
  have N1 := Fr.app N0 N1q
  rw [he1] at e1
  refine go_tr st1 ?_
  show Go _ _ _ _ (T1.setTop (mkF m 8 #[rv a1] [(.ref kd)]))
  obtain ⟨T2, X2, e2, st2⟩ := getS2 X1 hx hZ hown (host := "") (Or.inl (w107 hw)) Via.refl e1 (Sta.ext O0.2 GSB) (g := (mkF m 8 #[rv a1] [(.ref kd)])) rfl (hb hby d11_8)
  refine go_st (fun t k => st2 t k) ?_
  show Go _ _ _ _ (T2.setTop (mkF m 11 #[rv a1] [(.ref gB), (.ref kd)]))
  refine go_st (fun t k => Jvm.RoadKit.acmp (g := (mkF m 11 #[rv a1] [(.ref gB), (.ref kd)])) X2 hx rfl rfl rfl (pc0 := 11) (pc' := 14) (same := true) rfl (hb hby d11_11) rfl (decide_eq_true (congrArg Value.ref hk)) (by decide) (by decide) k) ?_
  show Go _ _ _ _ (T2.setTop (mkF m 14 #[rv a1] []))
  refine go_st (fun t k => XS.aloadN X2.here hx rfl (hb hby d11_14) rfl rfl k) ?_
  show Go _ _ _ _ (T2.setTop (mkF m 15 #[rv a1] [(.ref a1)]))
  obtain ⟨cq3, kq3, q3a, q3b, q3c⟩ := isOf hZ e2 H0
  obtain ⟨_, _, ⟨T3, L3, kk3, nn3⟩, -, X3, ⟨Lc3, hQ3, lq3, yq3, zq3⟩, st3⟩ := X2.virtualBack hx (y := (⟨"com/example/nudge/nudge/tree/Node", "text", "()Ljava/lang/String;"⟩ : MethodName)) (z := (⟨"com/example/nudge/nudge/tree/Node", "text", "()Ljava/lang/String;"⟩ : MethodName)) hown (mvT hZ (w102 hw)) (mvT hZ (w75 hw)) (notFace_of_selects (args := #[]) (mvT hZ (w77 hw))) (mvT hZ (w77 hw)) (mvT hZ (w76 hw)) (by decide) (backOf (W := 0) (rm_get_text l Z a0 hw [] a1 tx h0 n0 (Nat.le_trans Z0 (Nat.le_refl _)) H2) hZ (w78 hw) (w39 hw) (by decide) (by decide)) q3a q3c (g := (mkF m 15 #[rv a1] [(.ref a1)])) rfl (by rw [hml]; rfl) (Steps.refl _) (argsL := []) (rest := []) (lenOf pd_4 rfl) rfl (by show 2 * 0 + _ ≤ _; exact Nat.le_of_eq rfl) (hb hby d11_15) (fun _ _ => ⟨rfl, e2, (by decide : 0 + 0 ≤ _), (by decide : 0 + 0 ≤ _)⟩)
  dsimp only [Pt.U, Pt.locs, Pt.cells, Pt.slots] at X3 lq3 yq3 zq3 st3 hQ3
  subst lq3 yq3 zq3
  obtain ⟨h3, e3⟩ : ∃ z, T3.heap = z := ⟨_, rfl⟩
  rw [e3] at hQ3
  obtain ⟨rfl, N3q, he3⟩ := hQ3
  have N3 := Fr.app N1 N3q
  rw [he3] at e3
  refine go_tr st3 ?_
  show Go _ _ _ _ (T3.setTop (mkF m 18 #[rv a1] [(.ref tx)]))
  obtain ⟨li4, T4, h4, kk4, t4, kb4, X4, e4, E4, hS4, hk4, hZ4, hown4, Es4, Cs4, Vs4, As4, lla4, llt4, hC4, -, hne4, st4⟩ := ldcCH (vm0 := s.vm) X3 hx hZ hown (w114 hw) (str_atoms hw) e3 hS0 (Nat.le_trans hk0 (Nat.le_refl _)) (hEL hw) (List.mem_of_getElem? (i := 0) rfl) C0.1 (vs := [.int (116 : Int32), .int (114 : Int32), .int (117 : Int32), .int (101 : Int32)]) (z := (4 : Int32)) (by decide) (by decide) (by decide) (g := (mkF m 18 #[rv a1] [(.ref tx)])) rfl (hb hby d11_18) (n := 16) (by decide) (by decide) (by decide) (by decide)
  have C5 : CHr Z consts_1 s.vm h0 T4.vm h4 := CHr.trans C0 hC4
  refine go_st (fun t k => st4 t k) ?_
  show Go _ _ _ _ (T4.setTop (mkF m 20 #[rv a1] [(.ref li4), (.ref tx)]))
  have sl6 : Str Z h4 li4 t4 trueL := Str.of (n := 4) Es4 Vs4 Cs4 As4 rfl (by decide) (by unfold trueL; exact (chars_cons (by decide) (chars_cons (by decide) (chars_cons (by decide) (chars_cons (by decide) chars_nil)))))
  have f7 : Str Z h4 tx tt cs := (H4.ext E4)
  have oe8 : Old Z n0 h4 := (Old.ext O0 E4)
  have f10 : Exa Z h4 tx "java/lang/String" := (H3.ext E4)
  obtain ⟨cq9, kq9, q9a, q9b, q9c⟩ := isOf hZ4 e4 f10
  obtain ⟨_, _, ⟨T9, L9, kk9, nn9⟩, -, X9, ⟨Lc9, hQ9, lq9, yq9, zq9⟩, st9⟩ := X4.virtualBack hx (y := (⟨"java/lang/String", "equals", "(Ljava/lang/Object;)Z"⟩ : MethodName)) (z := (⟨"java/lang/String", "equals", "(Ljava/lang/Object;)Z"⟩ : MethodName)) hown4 (mvT hZ4 (w103 hw)) (mvT hZ4 (w80 hw)) (notFace_of_selects (args := #[]) (mvT hZ4 (w82 hw))) (mvT hZ4 (w82 hw)) (mvT hZ4 (w81 hw)) (by decide) (eqS (W := 0) hZ4 hw (kI := 4) (w9 hw) f7 sl6 (Sta.ext oe8.2 CS) CSn (by decide) (by decide)) q9a q9c (g := (mkF m 20 #[rv a1] [(.ref li4), (.ref tx)])) rfl (by rw [hml]; rfl) (Steps.refl _) (argsL := [(.ref li4)]) (rest := []) (lenOf pd_5 rfl) rfl (by show 2 * 0 + _ ≤ _; exact Nat.le_of_eq rfl) (hb hby d11_20) (fun _ _ => ⟨rfl, e4, (by decide : 2 + 0 ≤ _), (by decide : 20 + 0 ≤ _)⟩)
  dsimp only [Pt.U, Pt.locs, Pt.cells, Pt.slots] at X9 lq9 yq9 zq9 st9 hQ9
  subst lq9 yq9 zq9
  obtain ⟨h9, e9⟩ : ∃ z, T9.heap = z := ⟨_, rfl⟩
  rw [e9] at hQ9
  obtain ⟨hQ9, rfl, he9⟩ := hQ9
  have N9 := Fr.app N3 (Fr.nil n0)
  rw [he9] at e9
  rcases hQ9 with ⟨rfl, hq9⟩ | ⟨rfl, hq9⟩
  · skip
    refine go_tr st9 ?_
    show Go _ _ _ _ (T9.setTop (mkF m 23 #[rv a1] [(.int 1)]))
    refine go_st (fun t k => XS.ifNo X9.here hx rfl (hb hby d11_23) rfl ((if0 _ _).trans (feq ((by decide) : ¬ ((1 : Int32) = (0 : Int32)))).1) k) ?_
    show Go _ _ _ _ (T9.setTop (mkF m 26 #[rv a1] []))
    refine go_st (fun t k => XS.iconst X9.here hx rfl (hb hby d11_26) k) ?_
    show Go _ _ _ _ (T9.setTop (mkF m 27 #[rv a1] [(.int 1)]))
    refine go_st (fun t k => XS.goto X9.here hx rfl (pc0 := 27) (pc' := 31) rfl (hb hby d11_27) (by decide) (by decide) k) ?_
    show Go _ _ _ _ (T9.setTop (mkF m 31 #[rv a1] [(.int 1)]))
    have ke11 : Keep h0 h4 [] := (Keep.ext (Keep.refl h0 []) E4)
    obtain ⟨fs, hr, hrun, hended, hR⟩ := X9.leaveW hS4 (by rw [e9]; exact (Nat.le_trans hk4 (Nat.le_refl _))) (v := some (.int 1)) (fun h => by rw [Bd.returns] at h; cases h)
    refine ⟨_, _, ?_, hrun, hended, _, _, rfl, ?_, ?_, hR.1, hR.2.1, hR.2.2.1, hR.2.2.2.mono (by decide) (by decide)⟩
    · exact retN X9 hx (t := .boolean) Bd.returns (by simp) (hb hby d11_31) hr
    · show Q_isT1 _ _ _ _ _ _ _ _ _ _ _ T9.heap _
      rw [e9]
      exact ⟨(1 : Int32), rfl, N9, ke11, (Or.inl ⟨rfl, hq9⟩)⟩
    · show CHr Z consts_1 s.vm s.heap T9.vm T9.heap
      rw [hh, e9]
      exact CHr.trans C5 (CHv.at X9 hZ4 (hEL hw) C5.1)
  · skip
    refine go_tr st9 ?_
    show Go _ _ _ _ (T9.setTop (mkF m 23 #[rv a1] [(.int 0)]))
    refine go_st (fun t k => XS.ifYes X9.here hx rfl (pc0 := 23) (pc' := 30) rfl (hb hby d11_23) rfl ((if0 _ _).trans (teq ((by decide) : (0 : Int32) = (0 : Int32))).1) (by decide) (by decide) k) ?_
    show Go _ _ _ _ (T9.setTop (mkF m 30 #[rv a1] []))
    refine go_st (fun t k => XS.iconst X9.here hx rfl (hb hby d11_30) k) ?_
    show Go _ _ _ _ (T9.setTop (mkF m 31 #[rv a1] [(.int 0)]))
    have ke12 : Keep h0 h4 [] := (Keep.ext (Keep.refl h0 []) E4)
    obtain ⟨fs, hr, hrun, hended, hR⟩ := X9.leaveW hS4 (by rw [e9]; exact (Nat.le_trans hk4 (Nat.le_refl _))) (v := some (.int 0)) (fun h => by rw [Bd.returns] at h; cases h)
    refine ⟨_, _, ?_, hrun, hended, _, _, rfl, ?_, ?_, hR.1, hR.2.1, hR.2.2.1, hR.2.2.2.mono (by decide) (by decide)⟩
    · exact retN X9 hx (t := .boolean) Bd.returns (by simp) (hb hby d11_31) hr
    · show Q_isT1 _ _ _ _ _ _ _ _ _ _ _ T9.heap _
      rw [e9]
      exact ⟨(0 : Int32), rfl, N9, ke12, (Or.inr ⟨rfl, hq9⟩)⟩
    · show CHr Z consts_1 s.vm s.heap T9.vm T9.heap
      rw [hh, e9]
      exact CHr.trans C5 (CHv.at X9 hZ4 (hEL hw) C5.1)
def Q_min (Z : State) (x : Int32) (y : Int32) (h0 : Heap) (n0 : Nat) (vR : Option Value) (h : Heap) (L : List Loc) : Prop := ∃ (r : Int32), vR = some (.int r) ∧ Fr n0 L ∧ h = h0 ∧ (r.toInt ≤ x.toInt ∧ r.toInt ≤ y.toInt ∧ (r = x ∨ r = y))
theorem ef_min (m : MethodId) (x0 : Int32) (x1 : Int32) : entryFrame m #[(.int x0), (.int x1)] 2 = mkF m 0 #[.val (.int x0), .val (.int x1)] [] := by first | (simp [entryFrame, mkF, argsToLocals, Value.category]; done) | rfl
set_option maxRecDepth 65536 in
set_option maxHeartbeats 40000000 in
theorem rm_min (l : Launch) (Z : State) (a0 : Array Value) (hw : ∀ d ∈ tables_1, d.before a0 Z = true) (ws : List Jvm.Cond) (x : Int32) (y : Int32) (h0 : Heap) (n0 : Nat) (Z0 : n0 ≤ h0.size)  :
    MetFree l (⟨"java/lang/Math", "min", "(II)I"⟩ : MethodName) (head1 (Jvm.Cond.code (⟨"java/lang/Math", "min", "(II)I"⟩ : MethodName) jdk_29_method_69_code 2 (some .int) :: ws) ({ frames := 0, cells := 0, slots := 0, locals := 0 } : Room)) (fun a U => a = #[(.int x), (.int y)] ∧ Z.Warmed39 U.vm ∧ U.heap = h0) (fun _ _ _ _ _ => True) (fun _ U o U' => ∃ v L, o = .returned v ∧ Q_min Z x y h0 n0 v U'.heap L ∧ FrameEnd U o U' L ({ frames := 0, cells := 0, slots := 0, locals := 0 } : Room).cells ({ frames := 0, cells := 0, slots := 0, locals := 0 } : Room).slots) := by
  refine MetFree.of_bodySF (by decide +kernel) hisR ?_
  intro p e s m args below meth c s₁ Bd hml0 hP hK
  obtain ⟨rfl, hZ, hh⟩ := hP
  have hx := Bd.exec
  have hby := Bd.bytes
  have hml : c.maxLocals = 2 := hml0
  have hown : s.vm.findClass "java/lang/Math" = some m.cls := findClass_of_methodNamed Bd.named
  have hnm := (name_of_methodNamed Bd.named Bd.method).1
  have X0 : Stand p l e ({ frames := 0, cells := 0, slots := 0, locals := 0 } : Room) s m #[(.int x), (.int y)] below meth c s₁ [] 0 0 := Stand.of_body Bd
  have e0 : s₁.heap = h0 := by rw [← hh, Bd.state]; rfl
  have N0 := Fr.nil n0
  refine go_st (fun t k => castTop (ef_min m x y) k) ?_
  show Go _ _ _ _ (s₁.setTop (mkF m 0 #[iv x, iv y] []))
  refine go_st (fun t k => XS.iloadN X0.here hx rfl (hb hby d12_0) rfl k) ?_
  show Go _ _ _ _ (s₁.setTop (mkF m 1 #[iv x, iv y] [(.int x)]))
  refine go_st (fun t k => XS.iloadN X0.here hx rfl (hb hby d12_1) rfl k) ?_
  show Go _ _ _ _ (s₁.setTop (mkF m 2 #[iv x, iv y] [(.int y), (.int x)]))
  by_cases hc1 : y < x
  · skip
    refine go_st (fun t k => XS.icmpYes X0.here hx rfl (pc0 := 2) (pc' := 9) rfl (hb hby d12_2) rfl (tlt (hc1 : y < x)).2.2.1 (by decide) (by decide) k) ?_
    show Go _ _ _ _ (s₁.setTop (mkF m 9 #[iv x, iv y] []))
    refine go_st (fun t k => XS.iloadN X0.here hx rfl (hb hby d12_9) rfl k) ?_
    show Go _ _ _ _ (s₁.setTop (mkF m 10 #[iv x, iv y] [(.int y)]))
    obtain ⟨fs, hr, hrun, hended, hW, hsame⟩ := X0.leave (v := some (.int y)) (fun h => by rw [Bd.returns] at h; cases h)
    refine ⟨_, _, ?_, hrun, hended, _, _, rfl, ?_, ⟨_, rfl⟩, hW, hsame.mono (by decide) (by decide)⟩
    · exact retI X0 hx Bd.returns (hb hby d12_10) hr
    · show Q_min _ _ _ _ _ _ s₁.heap _
      rw [e0]
      exact ⟨y, rfl, N0, rfl, ⟨(by have q0 := Int32.lt_iff_toInt_lt.mp hc1; omega), Int.le_refl _, Or.inr rfl⟩⟩
  · skip
    refine go_st (fun t k => XS.icmpNo X0.here hx rfl (hb hby d12_2) rfl (flt (hc1 : ¬ (y < x))).2.2.1 k) ?_
    show Go _ _ _ _ (s₁.setTop (mkF m 5 #[iv x, iv y] []))
    refine go_st (fun t k => XS.iloadN X0.here hx rfl (hb hby d12_5) rfl k) ?_
    show Go _ _ _ _ (s₁.setTop (mkF m 6 #[iv x, iv y] [(.int x)]))
    refine go_st (fun t k => XS.goto X0.here hx rfl (pc0 := 6) (pc' := 10) rfl (hb hby d12_6) (by decide) (by decide) k) ?_
    show Go _ _ _ _ (s₁.setTop (mkF m 10 #[iv x, iv y] [(.int x)]))
    obtain ⟨fs, hr, hrun, hended, hW, hsame⟩ := X0.leave (v := some (.int x)) (fun h => by rw [Bd.returns] at h; cases h)
    refine ⟨_, _, ?_, hrun, hended, _, _, rfl, ?_, ⟨_, rfl⟩, hW, hsame.mono (by decide) (by decide)⟩
    · exact retI X0 hx Bd.returns (hb hby d12_10) hr
    · show Q_min _ _ _ _ _ _ s₁.heap _
      rw [e0]
      exact ⟨x, rfl, N0, rfl, ⟨Int.le_refl _, (by have q0 : ¬ y.toInt < x.toInt := (fun q => hc1 (Int32.lt_iff_toInt_lt.mpr q)); omega), Or.inl rfl⟩⟩
def Q_law (Z : State) (p0 : Int32) (p1 : Int32) (p2 : Int32) (p3 : Int32) (p4 : Int32) (p5 : Int32) (G1 : Int32) (gS : Addr) (gN : Addr) (gB : Addr) (gL : Addr) (gO : Addr) (gA : Addr) (nn : Addr) (nv : Addr) (np : Addr) (kn : ClassId) (h0 : Heap) (n0 : Nat) (vR : Option Value) (h : Heap) (L : List Loc) : Prop := vR = some (.int 1) ∧ Fr n0 L ∧ Keep h0 h []
theorem ef_law (m : MethodId) (x0 : Int32) (x1 : Int32) (x2 : Int32) (x3 : Int32) (x4 : Int32) (x5 : Int32) : entryFrame m #[(.int x0), (.int x1), (.int x2), (.int x3), (.int x4), (.int x5)] maxLocals = mkF m 0 #[.val (.int x0), .val (.int x1), .val (.int x2), .val (.int x3), .val (.int x4), .val (.int x5), .unset, .unset, .unset, .unset, .unset, .unset, .unset] [] := by first | (simp [entryFrame, mkF, argsToLocals, Value.category, maxLocals]; done) | rfl
set_option maxRecDepth 65536 in
set_option maxHeartbeats 40000000 in
theorem rm_law (l : Launch) (Z : State) (a0 : Array Value) (hw : ∀ d ∈ tables_1, d.before a0 Z = true) (ws : List Jvm.Cond) (p0 : Int32) (p1 : Int32) (p2 : Int32) (p3 : Int32) (p4 : Int32) (p5 : Int32) (G1 : Int32) (gS : Addr) (gN : Addr) (gB : Addr) (gL : Addr) (gO : Addr) (gA : Addr) (nn : Addr) (nv : Addr) (np : Addr) (kn : ClassId) (h0 : Heap) (n0 : Nat) (Z0 : n0 ≤ h0.size) (CS : Sta Z Z.heap "java/lang/String" "COMPACT_STRINGS" "Z" (.int G1)) (CSn : ¬ (G1 = (0 : Int32))) (GSS : Sta Z Z.heap "com/example/nudge/nudge/tree/Node$Kind" "STRING" "Lcom/example/nudge/nudge/tree/Node$Kind;" (.ref gS)) (GSN : Sta Z Z.heap "com/example/nudge/nudge/tree/Node$Kind" "NUMBER" "Lcom/example/nudge/nudge/tree/Node$Kind;" (.ref gN)) (GSB : Sta Z Z.heap "com/example/nudge/nudge/tree/Node$Kind" "BOOLEAN" "Lcom/example/nudge/nudge/tree/Node$Kind;" (.ref gB)) (GSL : Sta Z Z.heap "com/example/nudge/nudge/tree/Node$Kind" "NULL" "Lcom/example/nudge/nudge/tree/Node$Kind;" (.ref gL)) (GSO : Sta Z Z.heap "com/example/nudge/nudge/tree/Node$Kind" "OBJECT" "Lcom/example/nudge/nudge/tree/Node$Kind;" (.ref gO)) (GSA : Sta Z Z.heap "com/example/nudge/nudge/tree/Node$Kind" "ARRAY" "Lcom/example/nudge/nudge/tree/Node$Kind;" (.ref gA)) (AS_nn : Sta Z Z.heap "com/example/nudge/nudge/tree/Node" "NO_NAMES" "[Ljava/lang/String;" (.ref nn)) (AS_nv : Sta Z Z.heap "com/example/nudge/nudge/tree/Node" "NO_VALUES" "[Lcom/example/nudge/nudge/tree/Node;" (.ref nv)) (AS_np : Sta Z Z.heap "com/example/nudge/nudge/tree/Node" "NO_PLACES" "[I" (.ref np)) (nSO : gS ≠ gO) (nSA : gS ≠ gA) (nNO : gN ≠ gO) (nNA : gN ≠ gA) (nBO : gB ≠ gO) (nBA : gB ≠ gA) (nLO : gL ≠ gO) (nLA : gL ≠ gA) (nNS : gN ≠ gS) (nBS : gB ≠ gS) (nLS : gL ≠ gS) (nSB : gS ≠ gB) (nNB : gN ≠ gB) (nLB : gL ≠ gB) (H25 : Arv Z h0 nn kn (.object "java/lang/String") (0 : Int32) [] .null) (O0 : Old Z n0 h0) :
    MetFree l x (head1 (Jvm.Cond.code x code maxLocals ret :: ws) room_1) (fun a U => a = #[(.int p0), (.int p1), (.int p2), (.int p3), (.int p4), (.int p5)] ∧ Z.Warmed39 U.vm ∧ U.heap = h0 ∧ CHv Z consts_1 U.vm h0) (fun _ _ _ _ _ => True) (fun _ U o U' => ∃ v L, o = .returned v ∧ Q_law Z p0 p1 p2 p3 p4 p5 G1 gS gN gB gL gO gA nn nv np kn h0 n0 v U'.heap L ∧ CHr Z consts_1 U.vm U.heap U'.vm U'.heap ∧ ReturnedEndW U o U' L room_1.cells room_1.slots) := by
  refine MetFree.of_bodySF (plainFor_of_name pn_com_example_nudge_nudge_tree_NodeScalarPinLaw) hisR ?_
  intro p e s m args below meth c s₁ Bd hml0 hP hK
  obtain ⟨rfl, hZs, hh, HC0⟩ := hP
  have hx := Bd.exec
  have hby := Bd.bytes
  have hml : c.maxLocals = 13 := hml0
  have hZ : Z.Warmed39 (s.setVm s.vm).vm := hZs
  have hown : (s.setVm s.vm).vm.findClass "com/example/nudge/nudge/tree/NodeScalarPinLaw" = some m.cls := findClass_of_methodNamed Bd.named
  have hnm := (name_of_methodNamed Bd.named Bd.method).1
  have X0 : Stand p l e room_1 (s.setVm s.vm) m #[(.int p0), (.int p1), (.int p2), (.int p3), (.int p4), (.int p5)] below meth c s₁ [] 0 0 := Stand.of_body Bd
  have e0 : s₁.heap = h0 := by rw [← hh, Bd.state]; rfl
  have N0 := Fr.nil n0
  have hS0 : s.Since s.vm s.heap.size := (State.WarmedH.refl s).since _
  have hk0 : s.heap.size ≤ h0.size := Nat.le_of_eq (congrArg Array.size hh)
  have C0 : CHr Z consts_1 s.vm h0 s.vm h0 := CHr.refl HC0
  refine go_st (fun t k => castTop (ef_law m p0 p1 p2 p3 p4 p5) k) ?_
  refine go_named (fun PP hPP => ?_)
  show Go _ _ _ _ (s₁.setTop (mkF m 0 #[iv p0, iv p1, iv p2, iv p3, iv p4, iv p5, .unset, .unset, .unset, .unset, .unset, .unset, .unset] []))
  refine go_st (fun t k => XS.iloadN X0.here hx rfl (hb hby at_0) rfl k) ?_
  show Go _ _ _ _ (s₁.setTop (mkF m 1 #[iv p0, iv p1, iv p2, iv p3, iv p4, iv p5, .unset, .unset, .unset, .unset, .unset, .unset, .unset] [(.int p0)]))
  refine go_st (fun t k => XS.iconst X0.here hx rfl (hb hby at_1) k) ?_
  show Go _ _ _ _ (s₁.setTop (mkF m 2 #[iv p0, iv p1, iv p2, iv p3, iv p4, iv p5, .unset, .unset, .unset, .unset, .unset, .unset, .unset] [(.int 3), (.int p0)]))
  refine go_st (fun t k => XS.iand X0.here hx rfl (hb hby at_2) rfl k) ?_
  show Go _ _ _ _ (s₁.setTop (mkF m 3 #[iv p0, iv p1, iv p2, iv p3, iv p4, iv p5, .unset, .unset, .unset, .unset, .unset, .unset, .unset] [(.int (p0 &&& (3 : Int32)))]))
  refine go_st (fun t k => XS.istore X0.here hx rfl (hb hby at_3) rfl (l' := #[iv p0, iv p1, iv p2, iv p3, iv p4, iv p5, iv (p0 &&& (3 : Int32)), .unset, .unset, .unset, .unset, .unset, .unset]) rfl k) ?_
  show Go _ _ _ _ (s₁.setTop (mkF m 5 #[iv p0, iv p1, iv p2, iv p3, iv p4, iv p5, iv (p0 &&& (3 : Int32)), .unset, .unset, .unset, .unset, .unset, .unset] []))
  obtain ⟨sel, h_sel⟩ : ∃ z, z = (p0 &&& (3 : Int32)) := ⟨_, rfl⟩
  rw [← h_sel]
  show Go _ _ _ _ (s₁.setTop (mkF m 5 #[iv p0, iv p1, iv p2, iv p3, iv p4, iv p5, iv sel, .unset, .unset, .unset, .unset, .unset, .unset] []))
  refine go_st (fun t k => XS.iload X0.here hx rfl (hb hby at_5) rfl k) ?_
  show Go _ _ _ _ (s₁.setTop (mkF m 7 #[iv p0, iv p1, iv p2, iv p3, iv p4, iv p5, iv sel, .unset, .unset, .unset, .unset, .unset, .unset] [(.int sel)]))
  have j1 : ∀ (T : State) (L : List Loc) (kd : Addr), Stand p l e room_1 (s.setVm s.vm) m #[(.int p0), (.int p1), (.int p2), (.int p3), (.int p4), (.int p5)] below meth c T L 0 0 → Fr n0 L → T.heap = h0 → (kd ≠ gO) → (kd ≠ gA) → (sel = 0 ↔ kd = gS) → (sel = 2 ↔ kd = gB) → Go p.tables e below PP (T.setTop (mkF m 51 #[iv p0, iv p1, iv p2, iv p3, iv p4, iv p5, iv sel, rv kd, .unset, .unset, .unset, .unset, .unset] [])) := by
    intro T1 L1 kd X1 N1 e1 nO nA hkS hkB
    show Go _ _ _ _ (T1.setTop (mkF m 51 #[iv p0, iv p1, iv p2, iv p3, iv p4, iv p5, iv sel, rv kd, .unset, .unset, .unset, .unset, .unset] []))
    refine go_st (fun t k => XS.iloadN X1.here hx rfl (hb hby at_51) rfl k) ?_
    show Go _ _ _ _ (T1.setTop (mkF m 52 #[iv p0, iv p1, iv p2, iv p3, iv p4, iv p5, iv sel, rv kd, .unset, .unset, .unset, .unset, .unset] [(.int p1)]))
    refine go_st (fun t k => XS.bipush X1.here hx rfl (hb hby at_52) k) ?_
    show Go _ _ _ _ (T1.setTop (mkF m 54 #[iv p0, iv p1, iv p2, iv p3, iv p4, iv p5, iv sel, rv kd, .unset, .unset, .unset, .unset, .unset] [(.int 7), (.int p1)]))
    refine go_st (fun t k => XS.iand X1.here hx rfl (hb hby at_54) rfl k) ?_
    show Go _ _ _ _ (T1.setTop (mkF m 55 #[iv p0, iv p1, iv p2, iv p3, iv p4, iv p5, iv sel, rv kd, .unset, .unset, .unset, .unset, .unset] [(.int (p1 &&& (7 : Int32)))]))
    refine go_st (fun t k => XS.iconst X1.here hx rfl (hb hby at_55) k) ?_
    show Go _ _ _ _ (T1.setTop (mkF m 56 #[iv p0, iv p1, iv p2, iv p3, iv p4, iv p5, iv sel, rv kd, .unset, .unset, .unset, .unset, .unset] [(.int 4), (.int (p1 &&& (7 : Int32)))]))
    obtain ⟨n7, h_n7⟩ : ∃ z, z = (p1 &&& (7 : Int32)) := ⟨_, rfl⟩
    rw [← h_n7]
    show Go _ _ _ _ (T1.setTop (mkF m 56 #[iv p0, iv p1, iv p2, iv p3, iv p4, iv p5, iv sel, rv kd, .unset, .unset, .unset, .unset, .unset] [(.int 4), (.int n7)]))
    have rn7 : 0 ≤ n7.toInt ∧ n7.toInt ≤ 7 := by rw [h_n7]; exact c_and _ 7 (by decide)
    obtain ⟨_, _, ⟨T2, L2, kk2, nn2⟩, -, X2, ⟨Lc2, hQ2, lq2, yq2, zq2⟩, st2⟩ := Jvm.LawKit.callS X1 hx (y := (⟨"java/lang/Math", "min", "(II)I"⟩ : MethodName)) hown (mvT hZ (w3 hw)) (mvT hZ (w4 hw)) (mvT hZ (w5 hw)) (mvT hZ (w6 hw)) (by decide) (backOf (W := 0) (rm_min l Z a0 hw [] n7 (4 : Int32) h0 n0 (Nat.le_trans Z0 (Nat.le_refl _)) ) hZ (w6 hw) (w5 hw) (by decide) (by decide)) (g := (mkF m 56 #[iv p0, iv p1, iv p2, iv p3, iv p4, iv p5, iv sel, rv kd, .unset, .unset, .unset, .unset, .unset] [(.int 4), (.int n7)])) rfl (by rw [hml]; rfl) (argsL := [(.int n7), (.int 4)]) (rest := []) (lenOf pd_6 rfl) rfl (by show 2 * 0 + _ ≤ _; exact Nat.le_of_eq rfl) (hb hby at_56) (fun _ _ => ⟨rfl, e1, (by decide : 0 + 0 ≤ _), (by decide : 0 + 0 ≤ _)⟩)
    dsimp only [Pt.U, Pt.locs, Pt.cells, Pt.slots] at X2 lq2 yq2 zq2 st2 hQ2
    subst lq2 yq2 zq2
    obtain ⟨h2, e2⟩ : ∃ z, T2.heap = z := ⟨_, rfl⟩
    rw [e2] at hQ2
    obtain ⟨r_2, rfl, N2q, he2, hm_2⟩ := hQ2
    have N2 := Fr.app N1 N2q
    rw [he2] at e2
    refine go_st st2 ?_
    show Go _ _ _ _ (T2.setTop (mkF m 59 #[iv p0, iv p1, iv p2, iv p3, iv p4, iv p5, iv sel, rv kd, .unset, .unset, .unset, .unset, .unset] [(.int r_2)]))
    refine go_st (fun t k => XS.istore X2.here hx rfl (hb hby at_59) rfl (l' := #[iv p0, iv p1, iv p2, iv p3, iv p4, iv p5, iv sel, rv kd, iv r_2, .unset, .unset, .unset, .unset]) rfl k) ?_
    show Go _ _ _ _ (T2.setTop (mkF m 61 #[iv p0, iv p1, iv p2, iv p3, iv p4, iv p5, iv sel, rv kd, iv r_2, .unset, .unset, .unset, .unset] []))
    have hr5 := sevens (x := r_2) (by obtain ⟨a, b, c⟩ := hm_2; rcases c with c | c <;> rw [c] <;> first | omega | decide) (by obtain ⟨a, b, c⟩ := hm_2; have : (4 : Int32).toInt = 4 := rfl; omega)
    have j3 : ∀ (T : State) (L : List Loc) (vm3 : Vm) (k1 : Nat) (h3 : Heap) (ln : Int32) (ca : Addr) (tx : Addr) (tt : Addr) (cs : List Int32), Stand p l e room_1 (s.setVm vm3) m #[(.int p0), (.int p1), (.int p2), (.int p3), (.int p4), (.int p5)] below meth c T L 6 16 → Fr n0 L → T.heap = h3 → Ext h0 h3 → s.Since vm3 k1 → k1 ≤ h3.size → Z.Warmed39 (s.setVm vm3).vm → (s.setVm vm3).vm.findClass "com/example/nudge/nudge/tree/NodeScalarPinLaw" = some m.cls → CHr Z consts_1 s.vm h0 vm3 h3 → (Str Z h3 tx tt cs) → Go p.tables e below PP (T.setTop (mkF m 143 #[iv p0, iv p1, iv p2, iv p3, iv p4, iv p5, iv sel, rv kd, iv ln, rv ca, rv tx, .unset, .unset] [])) := by
      intro T3 L3 vm3 k1 h3 ln ca tx tt cs X3 N3 e3 E3 hS3 hk3 hZ3 hown3 CC3 hstr
      show Go _ _ _ _ (T3.setTop (mkF m 143 #[iv p0, iv p1, iv p2, iv p3, iv p4, iv p5, iv sel, rv kd, iv ln, rv ca, rv tx, .unset, .unset] []))
      refine go_st (fun t k => XS.aload X3.here hx rfl (hb hby at_143) rfl rfl k) ?_
      show Go _ _ _ _ (T3.setTop (mkF m 145 #[iv p0, iv p1, iv p2, iv p3, iv p4, iv p5, iv sel, rv kd, iv ln, rv ca, rv tx, .unset, .unset] [(.ref kd)]))
      refine go_st (fun t k => XS.aload X3.here hx rfl (hb hby at_145) rfl rfl k) ?_
      show Go _ _ _ _ (T3.setTop (mkF m 147 #[iv p0, iv p1, iv p2, iv p3, iv p4, iv p5, iv sel, rv kd, iv ln, rv ca, rv tx, .unset, .unset] [(.ref tx), (.ref kd)]))
      have oe4 : Old Z n0 h3 := (Old.ext O0 E3)
      obtain ⟨_, _, ⟨T5, L5, kk5, nn5⟩, -, X5, ⟨Lc5, hQ5, lq5, yq5, zq5⟩, st5⟩ := Jvm.LawKit.callS X3 hx (y := (⟨"com/example/nudge/nudge/tree/Node", "scalar", "(Lcom/example/nudge/nudge/tree/Node$Kind;Ljava/lang/String;)Lcom/example/nudge/nudge/tree/Node;"⟩ : MethodName)) hown3 (mvT hZ3 (w37 hw)) (mvT hZ3 (w38 hw)) (mvT hZ3 (w39 hw)) (mvT hZ3 (w40 hw)) (by decide) (backOf (W := 0) (rm_scalar l Z a0 hw [] kd tx nn nv np gO gA h3 n0 (Nat.le_trans Z0 E3.1) GSO GSA AS_nn AS_nv AS_np nO nA oe4) hZ3 (w40 hw) (w39 hw) (by decide) (by decide)) (g := (mkF m 147 #[iv p0, iv p1, iv p2, iv p3, iv p4, iv p5, iv sel, rv kd, iv ln, rv ca, rv tx, .unset, .unset] [(.ref tx), (.ref kd)])) rfl (by rw [hml]; rfl) (argsL := [(.ref kd), (.ref tx)]) (rest := []) (lenOf pd_7 rfl) rfl (by show 2 * 0 + _ ≤ _; exact Nat.le_of_eq rfl) (hb hby at_147) (fun _ _ => ⟨rfl, e3, (by decide : 6 + 1 ≤ _), (by decide : 16 + 6 ≤ _)⟩)
      dsimp only [Pt.U, Pt.locs, Pt.cells, Pt.slots] at X5 lq5 yq5 zq5 st5 hQ5
      subst lq5 yq5 zq5
      obtain ⟨h5, e5⟩ : ∃ z, T5.heap = z := ⟨_, rfl⟩
      rw [e5] at hQ5
      obtain ⟨b_5, rfl, N5q, K5, gf5_0, lf5_0, p5_1, p5_2, p5_3, p5_4, p5_5, p5_6, p5_7⟩ := hQ5
      have N5 := Fr.app N3 N5q
      have C6 : CHr Z consts_1 s.vm h0 vm3 h5 := CHr.trans CC3 (CHr.keep K5 sf0 CC3.1)
      refine go_st st5 ?_
      show Go _ _ _ _ (T5.setTop (mkF m 150 #[iv p0, iv p1, iv p2, iv p3, iv p4, iv p5, iv sel, rv kd, iv ln, rv ca, rv tx, .unset, .unset] [(.ref b_5)]))
      refine go_st (fun t k => XS.astore X5.here hx rfl (hb hby at_150) rfl rfl (l' := #[iv p0, iv p1, iv p2, iv p3, iv p4, iv p5, iv sel, rv kd, iv ln, rv ca, rv tx, rv b_5, .unset]) rfl k) ?_
      show Go _ _ _ _ (T5.setTop (mkF m 152 #[iv p0, iv p1, iv p2, iv p3, iv p4, iv p5, iv sel, rv kd, iv ln, rv ca, rv tx, rv b_5, .unset] []))
      refine go_st (fun t k => XS.aload X5.here hx rfl (hb hby at_152) rfl rfl k) ?_
      show Go _ _ _ _ (T5.setTop (mkF m 154 #[iv p0, iv p1, iv p2, iv p3, iv p4, iv p5, iv sel, rv kd, iv ln, rv ca, rv tx, rv b_5, .unset] [(.ref b_5)]))
      refine go_st (fun t k => XS.ifnonnullYes X5.here hx rfl (pc0 := 154) (pc' := 159) rfl (hb hby at_154) rfl (by decide) (by decide) k) ?_
      show Go _ _ _ _ (T5.setTop (mkF m 159 #[iv p0, iv p1, iv p2, iv p3, iv p4, iv p5, iv sel, rv kd, iv ln, rv ca, rv tx, rv b_5, .unset] []))
      refine go_st (fun t k => XS.aload X5.here hx rfl (hb hby at_159) rfl rfl k) ?_
      show Go _ _ _ _ (T5.setTop (mkF m 161 #[iv p0, iv p1, iv p2, iv p3, iv p4, iv p5, iv sel, rv kd, iv ln, rv ca, rv tx, rv b_5, .unset] [(.ref b_5)]))
      have sz7 : h0.size ≤ h5.size := (Nat.le_trans E3.1 K5.1)
      obtain ⟨cq8, kq8, q8a, q8b, q8c⟩ := isOf hZ3 e5 p5_1
      obtain ⟨_, _, ⟨T8, L8, kk8, nn8⟩, -, X8, ⟨Lc8, hQ8, lq8, yq8, zq8⟩, st8⟩ := X5.virtualBack hx (y := (⟨"com/example/nudge/nudge/tree/Node", "kind", "()Lcom/example/nudge/nudge/tree/Node$Kind;"⟩ : MethodName)) (z := (⟨"com/example/nudge/nudge/tree/Node", "kind", "()Lcom/example/nudge/nudge/tree/Node$Kind;"⟩ : MethodName)) hown3 (mvT hZ3 (w69 hw)) (mvT hZ3 (w70 hw)) (notFace_of_selects (args := #[]) (mvT hZ3 (w72 hw))) (mvT hZ3 (w72 hw)) (mvT hZ3 (w71 hw)) (by decide) (backOf (W := 0) (rm_get_kind l Z a0 hw [] b_5 kd h5 n0 (Nat.le_trans Z0 sz7) p5_2) hZ3 (w73 hw) (w39 hw) (by decide) (by decide)) q8a q8c (g := (mkF m 161 #[iv p0, iv p1, iv p2, iv p3, iv p4, iv p5, iv sel, rv kd, iv ln, rv ca, rv tx, rv b_5, .unset] [(.ref b_5)])) rfl (by rw [hml]; rfl) (Steps.refl _) (argsL := []) (rest := []) (lenOf pd_3 rfl) rfl (by show 2 * 0 + _ ≤ _; exact Nat.le_of_eq rfl) (hb hby at_161) (fun _ _ => ⟨rfl, e5, (by decide : 7 + 0 ≤ _), (by decide : 22 + 0 ≤ _)⟩)
      dsimp only [Pt.U, Pt.locs, Pt.cells, Pt.slots] at X8 lq8 yq8 zq8 st8 hQ8
      subst lq8 yq8 zq8
      obtain ⟨h8, e8⟩ : ∃ z, T8.heap = z := ⟨_, rfl⟩
      rw [e8] at hQ8
      obtain ⟨rfl, N8q, he8⟩ := hQ8
      have N8 := Fr.app N5 N8q
      rw [he8] at e8
      refine go_tr st8 ?_
      show Go _ _ _ _ (T8.setTop (mkF m 164 #[iv p0, iv p1, iv p2, iv p3, iv p4, iv p5, iv sel, rv kd, iv ln, rv ca, rv tx, rv b_5, .unset] [(.ref kd)]))
      refine go_st (fun t k => XS.aload X8.here hx rfl (hb hby at_164) rfl rfl k) ?_
      show Go _ _ _ _ (T8.setTop (mkF m 166 #[iv p0, iv p1, iv p2, iv p3, iv p4, iv p5, iv sel, rv kd, iv ln, rv ca, rv tx, rv b_5, .unset] [(.ref kd), (.ref kd)]))
      refine go_st (fun t k => Jvm.RoadKit.acmp (g := (mkF m 166 #[iv p0, iv p1, iv p2, iv p3, iv p4, iv p5, iv sel, rv kd, iv ln, rv ca, rv tx, rv b_5, .unset] [(.ref kd), (.ref kd)])) X8 hx rfl rfl rfl (pc0 := 166) (pc' := 169) (same := true) rfl (hb hby at_166) rfl (decide_eq_true rfl) (by decide) (by decide) k) ?_
      show Go _ _ _ _ (T8.setTop (mkF m 169 #[iv p0, iv p1, iv p2, iv p3, iv p4, iv p5, iv sel, rv kd, iv ln, rv ca, rv tx, rv b_5, .unset] []))
      refine go_st (fun t k => XS.iconst X8.here hx rfl (hb hby at_169) k) ?_
      show Go _ _ _ _ (T8.setTop (mkF m 170 #[iv p0, iv p1, iv p2, iv p3, iv p4, iv p5, iv sel, rv kd, iv ln, rv ca, rv tx, rv b_5, .unset] [(.int 1)]))
      refine go_st (fun t k => XS.goto X8.here hx rfl (pc0 := 170) (pc' := 174) rfl (hb hby at_170) (by decide) (by decide) k) ?_
      show Go _ _ _ _ (T8.setTop (mkF m 174 #[iv p0, iv p1, iv p2, iv p3, iv p4, iv p5, iv sel, rv kd, iv ln, rv ca, rv tx, rv b_5, .unset] [(.int 1)]))
      refine go_st (fun t k => XS.istore X8.here hx rfl (hb hby at_174) rfl (l' := #[iv p0, iv p1, iv p2, iv p3, iv p4, iv p5, iv sel, rv kd, iv ln, rv ca, rv tx, rv b_5, iv 1]) rfl k) ?_
      show Go _ _ _ _ (T8.setTop (mkF m 176 #[iv p0, iv p1, iv p2, iv p3, iv p4, iv p5, iv sel, rv kd, iv ln, rv ca, rv tx, rv b_5, iv 1] []))
      refine go_st (fun t k => XS.iload X8.here hx rfl (hb hby at_176) rfl k) ?_
      show Go _ _ _ _ (T8.setTop (mkF m 178 #[iv p0, iv p1, iv p2, iv p3, iv p4, iv p5, iv sel, rv kd, iv ln, rv ca, rv tx, rv b_5, iv 1] [(.int 1)]))
      refine go_st (fun t k => XS.ifNo X8.here hx rfl (hb hby at_178) rfl ((if0 _ _).trans (feq ((by decide) : ¬ ((1 : Int32) = (0 : Int32)))).1) k) ?_
      show Go _ _ _ _ (T8.setTop (mkF m 181 #[iv p0, iv p1, iv p2, iv p3, iv p4, iv p5, iv sel, rv kd, iv ln, rv ca, rv tx, rv b_5, iv 1] []))
      refine go_st (fun t k => XS.aload X8.here hx rfl (hb hby at_181) rfl rfl k) ?_
      show Go _ _ _ _ (T8.setTop (mkF m 183 #[iv p0, iv p1, iv p2, iv p3, iv p4, iv p5, iv sel, rv kd, iv ln, rv ca, rv tx, rv b_5, iv 1] [(.ref tx)]))
      refine go_st (fun t k => XS.aload X8.here hx rfl (hb hby at_183) rfl rfl k) ?_
      show Go _ _ _ _ (T8.setTop (mkF m 185 #[iv p0, iv p1, iv p2, iv p3, iv p4, iv p5, iv sel, rv kd, iv ln, rv ca, rv tx, rv b_5, iv 1] [(.ref b_5), (.ref tx)]))
      obtain ⟨cq9, kq9, q9a, q9b, q9c⟩ := isOf hZ3 e8 p5_1
      obtain ⟨_, _, ⟨T9, L9, kk9, nn9⟩, -, X9, ⟨Lc9, hQ9, lq9, yq9, zq9⟩, st9⟩ := X8.virtualBack hx (y := (⟨"com/example/nudge/nudge/tree/Node", "text", "()Ljava/lang/String;"⟩ : MethodName)) (z := (⟨"com/example/nudge/nudge/tree/Node", "text", "()Ljava/lang/String;"⟩ : MethodName)) hown3 (mvT hZ3 (w74 hw)) (mvT hZ3 (w75 hw)) (notFace_of_selects (args := #[]) (mvT hZ3 (w77 hw))) (mvT hZ3 (w77 hw)) (mvT hZ3 (w76 hw)) (by decide) (backOf (W := 1) (rm_get_text l Z a0 hw [] b_5 tx h5 n0 (Nat.le_trans Z0 sz7) p5_3) hZ3 (w78 hw) (w39 hw) (by decide) (by decide)) q9a q9c (g := (mkF m 185 #[iv p0, iv p1, iv p2, iv p3, iv p4, iv p5, iv sel, rv kd, iv ln, rv ca, rv tx, rv b_5, iv 1] [(.ref b_5), (.ref tx)])) rfl (by rw [hml]; rfl) (Steps.refl _) (argsL := []) (rest := [(.ref tx)]) (lenOf pd_4 rfl) rfl (by show 2 * 0 + _ ≤ _; exact Nat.le_of_eq rfl) (hb hby at_185) (fun _ _ => ⟨rfl, e8, (by decide : 7 + 0 ≤ _), (by decide : 22 + 0 ≤ _)⟩)
      dsimp only [Pt.U, Pt.locs, Pt.cells, Pt.slots] at X9 lq9 yq9 zq9 st9 hQ9
      subst lq9 yq9 zq9
      obtain ⟨h9, e9⟩ : ∃ z, T9.heap = z := ⟨_, rfl⟩
      rw [e9] at hQ9
      obtain ⟨rfl, N9q, he9⟩ := hQ9
      have N9 := Fr.app N8 N9q
      rw [he9] at e9
      refine go_tr st9 ?_
      show Go _ _ _ _ (T9.setTop (mkF m 188 #[iv p0, iv p1, iv p2, iv p3, iv p4, iv p5, iv sel, rv kd, iv ln, rv ca, rv tx, rv b_5, iv 1] [(.ref tx), (.ref tx)]))
      have f11 : Exa Z h5 tx "java/lang/String" := (hstr.1.keep K5)
      obtain ⟨cq10, kq10, q10a, q10b, q10c⟩ := isOf hZ3 e9 f11
      obtain ⟨_, _, ⟨T10, L10, kk10, nn10⟩, -, X10, ⟨Lc10, hQ10, lq10, yq10, zq10⟩, st10⟩ := X9.virtualBack hx (y := (⟨"java/lang/String", "equals", "(Ljava/lang/Object;)Z"⟩ : MethodName)) (z := (⟨"java/lang/String", "equals", "(Ljava/lang/Object;)Z"⟩ : MethodName)) hown3 (mvT hZ3 (w79 hw)) (mvT hZ3 (w80 hw)) (notFace_of_selects (args := #[]) (mvT hZ3 (w82 hw))) (mvT hZ3 (w82 hw)) (mvT hZ3 (w81 hw)) (by decide) (backOf (W := 0) (rm_eqsame l Z a0 hw [] tx h5 n0 (Nat.le_trans Z0 sz7) ) hZ3 (w83 hw) (w10 hw) (by decide) (by decide)) q10a q10c (g := (mkF m 188 #[iv p0, iv p1, iv p2, iv p3, iv p4, iv p5, iv sel, rv kd, iv ln, rv ca, rv tx, rv b_5, iv 1] [(.ref tx), (.ref tx)])) rfl (by rw [hml]; rfl) (Steps.refl _) (argsL := [(.ref tx)]) (rest := []) (lenOf pd_5 rfl) rfl (by show 2 * 0 + _ ≤ _; exact Nat.le_of_eq rfl) (hb hby at_188) (fun _ _ => ⟨rfl, e9, (by decide : 7 + 0 ≤ _), (by decide : 22 + 0 ≤ _)⟩)
      dsimp only [Pt.U, Pt.locs, Pt.cells, Pt.slots] at X10 lq10 yq10 zq10 st10 hQ10
      subst lq10 yq10 zq10
      obtain ⟨h10, e10⟩ : ∃ z, T10.heap = z := ⟨_, rfl⟩
      rw [e10] at hQ10
      obtain ⟨rfl, N10q, he10⟩ := hQ10
      have N10 := Fr.app N9 N10q
      rw [he10] at e10
      refine go_tr st10 ?_
      show Go _ _ _ _ (T10.setTop (mkF m 191 #[iv p0, iv p1, iv p2, iv p3, iv p4, iv p5, iv sel, rv kd, iv ln, rv ca, rv tx, rv b_5, iv 1] [(.int 1)]))
      refine go_st (fun t k => XS.ifNo X10.here hx rfl (hb hby at_191) rfl ((if0 _ _).trans (feq ((by decide) : ¬ ((1 : Int32) = (0 : Int32)))).1) k) ?_
      show Go _ _ _ _ (T10.setTop (mkF m 194 #[iv p0, iv p1, iv p2, iv p3, iv p4, iv p5, iv sel, rv kd, iv ln, rv ca, rv tx, rv b_5, iv 1] []))
      refine go_st (fun t k => XS.iconst X10.here hx rfl (hb hby at_194) k) ?_
      show Go _ _ _ _ (T10.setTop (mkF m 195 #[iv p0, iv p1, iv p2, iv p3, iv p4, iv p5, iv sel, rv kd, iv ln, rv ca, rv tx, rv b_5, iv 1] [(.int 1)]))
      refine go_st (fun t k => XS.goto X10.here hx rfl (pc0 := 195) (pc' := 199) rfl (hb hby at_195) (by decide) (by decide) k) ?_
      show Go _ _ _ _ (T10.setTop (mkF m 199 #[iv p0, iv p1, iv p2, iv p3, iv p4, iv p5, iv sel, rv kd, iv ln, rv ca, rv tx, rv b_5, iv 1] [(.int 1)]))
      refine go_st (fun t k => XS.istore X10.here hx rfl (hb hby at_199) rfl (l' := #[iv p0, iv p1, iv p2, iv p3, iv p4, iv p5, iv sel, rv kd, iv ln, rv ca, rv tx, rv b_5, iv 1]) rfl k) ?_
      show Go _ _ _ _ (T10.setTop (mkF m 201 #[iv p0, iv p1, iv p2, iv p3, iv p4, iv p5, iv sel, rv kd, iv ln, rv ca, rv tx, rv b_5, iv 1] []))
      refine go_st (fun t k => XS.iload X10.here hx rfl (hb hby at_201) rfl k) ?_
      show Go _ _ _ _ (T10.setTop (mkF m 203 #[iv p0, iv p1, iv p2, iv p3, iv p4, iv p5, iv sel, rv kd, iv ln, rv ca, rv tx, rv b_5, iv 1] [(.int 1)]))
      refine go_st (fun t k => XS.ifNo X10.here hx rfl (hb hby at_203) rfl ((if0 _ _).trans (feq ((by decide) : ¬ ((1 : Int32) = (0 : Int32)))).1) k) ?_
      show Go _ _ _ _ (T10.setTop (mkF m 206 #[iv p0, iv p1, iv p2, iv p3, iv p4, iv p5, iv sel, rv kd, iv ln, rv ca, rv tx, rv b_5, iv 1] []))
      refine go_st (fun t k => XS.aload X10.here hx rfl (hb hby at_206) rfl rfl k) ?_
      show Go _ _ _ _ (T10.setTop (mkF m 208 #[iv p0, iv p1, iv p2, iv p3, iv p4, iv p5, iv sel, rv kd, iv ln, rv ca, rv tx, rv b_5, iv 1] [(.ref b_5)]))
      have oe12 : Old Z n0 h5 := (Old.keep oe4 K5 all0)
      obtain ⟨cq13, kq13, q13a, q13b, q13c⟩ := isOf hZ3 e10 p5_1
      obtain ⟨_, _, ⟨T13, L13, kk13, nn13⟩, -, X13, ⟨Lc13, hQ13, lq13, yq13, zq13⟩, st13⟩ := X10.virtualBack hx (y := (⟨"com/example/nudge/nudge/tree/Node", "size", "()I"⟩ : MethodName)) (z := (⟨"com/example/nudge/nudge/tree/Node", "size", "()I"⟩ : MethodName)) hown3 (mvT hZ3 (w84 hw)) (mvT hZ3 (w85 hw)) (notFace_of_selects (args := #[]) (mvT hZ3 (w87 hw))) (mvT hZ3 (w87 hw)) (mvT hZ3 (w86 hw)) (by decide) (backOf (W := 0) (rm_size l Z a0 hw [] b_5 kd gA h5 n0 (Nat.le_trans Z0 sz7) p5_2 GSA nA oe12) hZ3 (w88 hw) (w39 hw) (by decide) (by decide)) q13a q13c (g := (mkF m 208 #[iv p0, iv p1, iv p2, iv p3, iv p4, iv p5, iv sel, rv kd, iv ln, rv ca, rv tx, rv b_5, iv 1] [(.ref b_5)])) rfl (by rw [hml]; rfl) (Steps.refl _) (argsL := []) (rest := []) (lenOf pd_8 rfl) rfl (by show 2 * 0 + _ ≤ _; exact Nat.le_of_eq rfl) (hb hby at_208) (fun _ _ => ⟨rfl, e10, (by decide : 7 + 0 ≤ _), (by decide : 22 + 0 ≤ _)⟩)
      dsimp only [Pt.U, Pt.locs, Pt.cells, Pt.slots] at X13 lq13 yq13 zq13 st13 hQ13
      subst lq13 yq13 zq13
      obtain ⟨h13, e13⟩ : ∃ z, T13.heap = z := ⟨_, rfl⟩
      rw [e13] at hQ13
      obtain ⟨rfl, N13q, he13⟩ := hQ13
      have N13 := Fr.app N10 N13q
      rw [he13] at e13
      refine go_tr st13 ?_
      show Go _ _ _ _ (T13.setTop (mkF m 211 #[iv p0, iv p1, iv p2, iv p3, iv p4, iv p5, iv sel, rv kd, iv ln, rv ca, rv tx, rv b_5, iv 1] [(.int 0)]))
      refine go_st (fun t k => XS.ifNo X13.here hx rfl (hb hby at_211) rfl ((if0 _ _).trans (teq ((by decide) : (0 : Int32) = (0 : Int32))).2) k) ?_
      show Go _ _ _ _ (T13.setTop (mkF m 214 #[iv p0, iv p1, iv p2, iv p3, iv p4, iv p5, iv sel, rv kd, iv ln, rv ca, rv tx, rv b_5, iv 1] []))
      refine go_st (fun t k => XS.iconst X13.here hx rfl (hb hby at_214) k) ?_
      show Go _ _ _ _ (T13.setTop (mkF m 215 #[iv p0, iv p1, iv p2, iv p3, iv p4, iv p5, iv sel, rv kd, iv ln, rv ca, rv tx, rv b_5, iv 1] [(.int 1)]))
      refine go_st (fun t k => XS.goto X13.here hx rfl (pc0 := 215) (pc' := 219) rfl (hb hby at_215) (by decide) (by decide) k) ?_
      show Go _ _ _ _ (T13.setTop (mkF m 219 #[iv p0, iv p1, iv p2, iv p3, iv p4, iv p5, iv sel, rv kd, iv ln, rv ca, rv tx, rv b_5, iv 1] [(.int 1)]))
      refine go_st (fun t k => XS.istore X13.here hx rfl (hb hby at_219) rfl (l' := #[iv p0, iv p1, iv p2, iv p3, iv p4, iv p5, iv sel, rv kd, iv ln, rv ca, rv tx, rv b_5, iv 1]) rfl k) ?_
      show Go _ _ _ _ (T13.setTop (mkF m 221 #[iv p0, iv p1, iv p2, iv p3, iv p4, iv p5, iv sel, rv kd, iv ln, rv ca, rv tx, rv b_5, iv 1] []))
      refine go_st (fun t k => XS.iload X13.here hx rfl (hb hby at_221) rfl k) ?_
      show Go _ _ _ _ (T13.setTop (mkF m 223 #[iv p0, iv p1, iv p2, iv p3, iv p4, iv p5, iv sel, rv kd, iv ln, rv ca, rv tx, rv b_5, iv 1] [(.int 1)]))
      refine go_st (fun t k => XS.ifNo X13.here hx rfl (hb hby at_223) rfl ((if0 _ _).trans (feq ((by decide) : ¬ ((1 : Int32) = (0 : Int32)))).1) k) ?_
      show Go _ _ _ _ (T13.setTop (mkF m 226 #[iv p0, iv p1, iv p2, iv p3, iv p4, iv p5, iv sel, rv kd, iv ln, rv ca, rv tx, rv b_5, iv 1] []))
      refine go_st (fun t k => XS.aload X13.here hx rfl (hb hby at_226) rfl rfl k) ?_
      show Go _ _ _ _ (T13.setTop (mkF m 228 #[iv p0, iv p1, iv p2, iv p3, iv p4, iv p5, iv sel, rv kd, iv ln, rv ca, rv tx, rv b_5, iv 1] [(.ref b_5)]))
      refine go_st (fun t k => XS.aload X13.here hx rfl (hb hby at_228) rfl rfl k) ?_
      show Go _ _ _ _ (T13.setTop (mkF m 230 #[iv p0, iv p1, iv p2, iv p3, iv p4, iv p5, iv sel, rv kd, iv ln, rv ca, rv tx, rv b_5, iv 1] [(.ref tx), (.ref b_5)]))
      have f14 : Arv Z h5 nn kn (.object "java/lang/String") (0 : Int32) [] .null := ((H25.ext E3).keep K5 nin0)
      obtain ⟨cq15, kq15, q15a, q15b, q15c⟩ := isOf hZ3 e13 p5_1
      obtain ⟨_, _, ⟨T15, L15, kk15, nn15⟩, -, X15, ⟨Lc15, hQ15, lq15, yq15, zq15⟩, st15⟩ := X13.virtualBack hx (y := (⟨"com/example/nudge/nudge/tree/Node", "get", "(Ljava/lang/String;)Lcom/example/nudge/nudge/tree/Node;"⟩ : MethodName)) (z := (⟨"com/example/nudge/nudge/tree/Node", "get", "(Ljava/lang/String;)Lcom/example/nudge/nudge/tree/Node;"⟩ : MethodName)) hown3 (mvT hZ3 (w89 hw)) (mvT hZ3 (w90 hw)) (notFace_of_selects (args := #[]) (mvT hZ3 (w92 hw))) (mvT hZ3 (w92 hw)) (mvT hZ3 (w91 hw)) (by decide) (backOf (W := 0) (rm_getn l Z a0 hw [] b_5 tx nn kn h5 n0 (Nat.le_trans Z0 sz7) p5_4 p5_7 f14) hZ3 (w93 hw) (w39 hw) (by decide) (by decide)) q15a q15c (g := (mkF m 230 #[iv p0, iv p1, iv p2, iv p3, iv p4, iv p5, iv sel, rv kd, iv ln, rv ca, rv tx, rv b_5, iv 1] [(.ref tx), (.ref b_5)])) rfl (by rw [hml]; rfl) (Steps.refl _) (argsL := [(.ref tx)]) (rest := []) (lenOf pd_9 rfl) rfl (by show 2 * 0 + _ ≤ _; exact Nat.le_of_eq rfl) (hb hby at_230) (fun _ _ => ⟨rfl, e13, (by decide : 7 + 0 ≤ _), (by decide : 22 + 0 ≤ _)⟩)
      dsimp only [Pt.U, Pt.locs, Pt.cells, Pt.slots] at X15 lq15 yq15 zq15 st15 hQ15
      subst lq15 yq15 zq15
      obtain ⟨h15, e15⟩ : ∃ z, T15.heap = z := ⟨_, rfl⟩
      rw [e15] at hQ15
      obtain ⟨rfl, N15q, he15⟩ := hQ15
      have N15 := Fr.app N13 N15q
      rw [he15] at e15
      refine go_tr st15 ?_
      show Go _ _ _ _ (T15.setTop (mkF m 233 #[iv p0, iv p1, iv p2, iv p3, iv p4, iv p5, iv sel, rv kd, iv ln, rv ca, rv tx, rv b_5, iv 1] [.null]))
      refine go_st (fun t k => XS.ifnonnullNo X15.here hx rfl (hb hby at_233) rfl k) ?_
      show Go _ _ _ _ (T15.setTop (mkF m 236 #[iv p0, iv p1, iv p2, iv p3, iv p4, iv p5, iv sel, rv kd, iv ln, rv ca, rv tx, rv b_5, iv 1] []))
      refine go_st (fun t k => XS.iconst X15.here hx rfl (hb hby at_236) k) ?_
      show Go _ _ _ _ (T15.setTop (mkF m 237 #[iv p0, iv p1, iv p2, iv p3, iv p4, iv p5, iv sel, rv kd, iv ln, rv ca, rv tx, rv b_5, iv 1] [(.int 1)]))
      refine go_st (fun t k => XS.goto X15.here hx rfl (pc0 := 237) (pc' := 241) rfl (hb hby at_237) (by decide) (by decide) k) ?_
      show Go _ _ _ _ (T15.setTop (mkF m 241 #[iv p0, iv p1, iv p2, iv p3, iv p4, iv p5, iv sel, rv kd, iv ln, rv ca, rv tx, rv b_5, iv 1] [(.int 1)]))
      refine go_st (fun t k => XS.istore X15.here hx rfl (hb hby at_241) rfl (l' := #[iv p0, iv p1, iv p2, iv p3, iv p4, iv p5, iv sel, rv kd, iv ln, rv ca, rv tx, rv b_5, iv 1]) rfl k) ?_
      show Go _ _ _ _ (T15.setTop (mkF m 243 #[iv p0, iv p1, iv p2, iv p3, iv p4, iv p5, iv sel, rv kd, iv ln, rv ca, rv tx, rv b_5, iv 1] []))
      refine go_st (fun t k => XS.iload X15.here hx rfl (hb hby at_243) rfl k) ?_
      show Go _ _ _ _ (T15.setTop (mkF m 245 #[iv p0, iv p1, iv p2, iv p3, iv p4, iv p5, iv sel, rv kd, iv ln, rv ca, rv tx, rv b_5, iv 1] [(.int 1)]))
      refine go_st (fun t k => XS.ifNo X15.here hx rfl (hb hby at_245) rfl ((if0 _ _).trans (feq ((by decide) : ¬ ((1 : Int32) = (0 : Int32)))).1) k) ?_
      show Go _ _ _ _ (T15.setTop (mkF m 248 #[iv p0, iv p1, iv p2, iv p3, iv p4, iv p5, iv sel, rv kd, iv ln, rv ca, rv tx, rv b_5, iv 1] []))
      refine go_st (fun t k => XS.aload X15.here hx rfl (hb hby at_248) rfl rfl k) ?_
      show Go _ _ _ _ (T15.setTop (mkF m 250 #[iv p0, iv p1, iv p2, iv p3, iv p4, iv p5, iv sel, rv kd, iv ln, rv ca, rv tx, rv b_5, iv 1] [(.ref b_5)]))
      refine go_st (fun t k => XS.aload X15.here hx rfl (hb hby at_250) rfl rfl k) ?_
      show Go _ _ _ _ (T15.setTop (mkF m 252 #[iv p0, iv p1, iv p2, iv p3, iv p4, iv p5, iv sel, rv kd, iv ln, rv ca, rv tx, rv b_5, iv 1] [(.ref tx), (.ref b_5)]))
      by_cases hs0 : sel = 0
      · skip
        obtain ⟨_, _, ⟨T16, L16, kk16, nn16⟩, -, X16, ⟨Lc16, hQ16, lq16, yq16, zq16⟩, st16⟩ := Jvm.LawKit.callS X15 hx (y := (⟨"com/example/nudge/nudge/tree/Node", "isString", "(Lcom/example/nudge/nudge/tree/Node;Ljava/lang/String;)Z"⟩ : MethodName)) hown3 (mvT hZ3 (w97 hw)) (mvT hZ3 (w98 hw)) (mvT hZ3 (w39 hw)) (mvT hZ3 (w99 hw)) (by decide) (backOf (W := 0) (rm_isS1 l Z a0 hw [] b_5 tx kd gS h5 n0 (Nat.le_trans Z0 sz7) p5_1 f11 p5_2 p5_3 GSS (hkS.mp hs0) oe12) hZ3 (w99 hw) (w39 hw) (by decide) (by decide)) (g := (mkF m 252 #[iv p0, iv p1, iv p2, iv p3, iv p4, iv p5, iv sel, rv kd, iv ln, rv ca, rv tx, rv b_5, iv 1] [(.ref tx), (.ref b_5)])) rfl (by rw [hml]; rfl) (argsL := [(.ref b_5), (.ref tx)]) (rest := []) (lenOf pd_10 rfl) rfl (by show 2 * 0 + _ ≤ _; exact Nat.le_of_eq rfl) (hb hby at_252) (fun _ _ => ⟨rfl, e15, (by decide : 7 + 0 ≤ _), (by decide : 22 + 0 ≤ _)⟩)
        dsimp only [Pt.U, Pt.locs, Pt.cells, Pt.slots] at X16 lq16 yq16 zq16 st16 hQ16
        subst lq16 yq16 zq16
        obtain ⟨h16, e16⟩ : ∃ z, T16.heap = z := ⟨_, rfl⟩
        rw [e16] at hQ16
        obtain ⟨rfl, N16q, he16⟩ := hQ16
        have N16 := Fr.app N15 N16q
        rw [he16] at e16
        refine go_st st16 ?_
        show Go _ _ _ _ (T16.setTop (mkF m 255 #[iv p0, iv p1, iv p2, iv p3, iv p4, iv p5, iv sel, rv kd, iv ln, rv ca, rv tx, rv b_5, iv 1] [(.int 1)]))
        refine go_st (fun t k => XS.iload X16.here hx rfl (hb hby at_255) rfl k) ?_
        show Go _ _ _ _ (T16.setTop (mkF m 257 #[iv p0, iv p1, iv p2, iv p3, iv p4, iv p5, iv sel, rv kd, iv ln, rv ca, rv tx, rv b_5, iv 1] [(.int sel), (.int 1)]))
        refine go_st (fun t k => XS.ifNo X16.here hx rfl (hb hby at_257) rfl ((if0 _ _).trans (teq (hs0 : sel = (0 : Int32))).2) k) ?_
        show Go _ _ _ _ (T16.setTop (mkF m 260 #[iv p0, iv p1, iv p2, iv p3, iv p4, iv p5, iv sel, rv kd, iv ln, rv ca, rv tx, rv b_5, iv 1] [(.int 1)]))
        refine go_st (fun t k => XS.iconst X16.here hx rfl (hb hby at_260) k) ?_
        show Go _ _ _ _ (T16.setTop (mkF m 261 #[iv p0, iv p1, iv p2, iv p3, iv p4, iv p5, iv sel, rv kd, iv ln, rv ca, rv tx, rv b_5, iv 1] [(.int 1), (.int 1)]))
        refine go_st (fun t k => XS.goto X16.here hx rfl (pc0 := 261) (pc' := 265) rfl (hb hby at_261) (by decide) (by decide) k) ?_
        show Go _ _ _ _ (T16.setTop (mkF m 265 #[iv p0, iv p1, iv p2, iv p3, iv p4, iv p5, iv sel, rv kd, iv ln, rv ca, rv tx, rv b_5, iv 1] [(.int 1), (.int 1)]))
        refine go_st (fun t k => XS.icmpNo X16.here hx rfl (hb hby at_265) rfl (teq ((by decide) : (1 : Int32) = (1 : Int32))).2 k) ?_
        show Go _ _ _ _ (T16.setTop (mkF m 268 #[iv p0, iv p1, iv p2, iv p3, iv p4, iv p5, iv sel, rv kd, iv ln, rv ca, rv tx, rv b_5, iv 1] []))
        refine go_st (fun t k => XS.iconst X16.here hx rfl (hb hby at_268) k) ?_
        show Go _ _ _ _ (T16.setTop (mkF m 269 #[iv p0, iv p1, iv p2, iv p3, iv p4, iv p5, iv sel, rv kd, iv ln, rv ca, rv tx, rv b_5, iv 1] [(.int 1)]))
        refine go_st (fun t k => XS.goto X16.here hx rfl (pc0 := 269) (pc' := 273) rfl (hb hby at_269) (by decide) (by decide) k) ?_
        show Go _ _ _ _ (T16.setTop (mkF m 273 #[iv p0, iv p1, iv p2, iv p3, iv p4, iv p5, iv sel, rv kd, iv ln, rv ca, rv tx, rv b_5, iv 1] [(.int 1)]))
        refine go_st (fun t k => XS.istore X16.here hx rfl (hb hby at_273) rfl (l' := #[iv p0, iv p1, iv p2, iv p3, iv p4, iv p5, iv sel, rv kd, iv ln, rv ca, rv tx, rv b_5, iv 1]) rfl k) ?_
        show Go _ _ _ _ (T16.setTop (mkF m 275 #[iv p0, iv p1, iv p2, iv p3, iv p4, iv p5, iv sel, rv kd, iv ln, rv ca, rv tx, rv b_5, iv 1] []))
        refine go_st (fun t k => XS.iload X16.here hx rfl (hb hby at_275) rfl k) ?_
        show Go _ _ _ _ (T16.setTop (mkF m 277 #[iv p0, iv p1, iv p2, iv p3, iv p4, iv p5, iv sel, rv kd, iv ln, rv ca, rv tx, rv b_5, iv 1] [(.int 1)]))
        refine go_st (fun t k => XS.ifNo X16.here hx rfl (hb hby at_277) rfl ((if0 _ _).trans (feq ((by decide) : ¬ ((1 : Int32) = (0 : Int32)))).1) k) ?_
        show Go _ _ _ _ (T16.setTop (mkF m 280 #[iv p0, iv p1, iv p2, iv p3, iv p4, iv p5, iv sel, rv kd, iv ln, rv ca, rv tx, rv b_5, iv 1] []))
        refine go_st (fun t k => XS.aload X16.here hx rfl (hb hby at_280) rfl rfl k) ?_
        show Go _ _ _ _ (T16.setTop (mkF m 282 #[iv p0, iv p1, iv p2, iv p3, iv p4, iv p5, iv sel, rv kd, iv ln, rv ca, rv tx, rv b_5, iv 1] [(.ref b_5)]))
        by_cases hs2 : sel = 2
        · skip
          have f17 : Str Z h5 tx tt cs := (hstr.keep K5 nin0 nin0)
          obtain ⟨_, _, ⟨T18, L18, kk18, nn18⟩, -, X18, hs218, hg18, ⟨Lc18, hQ18, lq18, yq18, zq18, hC18⟩, st18⟩ := callSS X16 hx (y := (⟨"com/example/nudge/nudge/tree/Node", "isTrue", "(Lcom/example/nudge/nudge/tree/Node;)Z"⟩ : MethodName)) hown3 (mvT hZ3 (w104 hw)) (mvT hZ3 (w105 hw)) (mvT hZ3 (w39 hw)) (mvT hZ3 (w106 hw)) (by decide) (backOfSH (vm0 := vm3) (W := 0) (rm_isT1 l Z a0 hw [] b_5 tx tt cs kd gB G1 h5 n0 (Nat.le_trans Z0 sz7) p5_1 p5_2 p5_3 f11 f17 GSB CS CSn (hkB.mp hs2) oe12) hZ3 (w106 hw) (w39 hw) (by decide) (by decide) (hEL hw) C6.1) (g := (mkF m 282 #[iv p0, iv p1, iv p2, iv p3, iv p4, iv p5, iv sel, rv kd, iv ln, rv ca, rv tx, rv b_5, iv 1] [(.ref b_5)])) rfl (by rw [hml]; rfl) (argsL := [(.ref b_5)]) (rest := []) (lenOf pd_11 rfl) rfl (by show 2 * 0 + _ ≤ _; exact Nat.le_of_eq rfl) (hb hby at_282) (fun _ _ => ⟨rfl, e16, (by decide : 7 + 2 ≤ _), (by decide : 22 + 20 ≤ _)⟩)
          dsimp only [Pt.U, Pt.locs, Pt.cells, Pt.slots] at X18 hs218 hg18 lq18 yq18 zq18 st18 hQ18 hC18
          subst lq18 yq18 zq18
          rw [e16] at hg18
          obtain ⟨X18, hS18, hZ18, hown18⟩ := rebS (vm0 := vm3) hS3 (Nat.le_trans hk3 K5.1) X18 hs218 hg18 hZ3 hown3
          obtain ⟨h18, e18⟩ : ∃ z, T18.heap = z := ⟨_, rfl⟩
          rw [e18] at hQ18 hg18 hC18 hS18
          obtain ⟨r_18, rfl, N18q, K18, hr_18⟩ := hQ18
          have N18 := Fr.app N16 N18q
          have C19 : CHr Z consts_1 s.vm h0 T18.vm h18 := CHr.trans C6 hC18
          refine go_tr st18 ?_
          show Go _ _ _ _ (T18.setTop (mkF m 285 #[iv p0, iv p1, iv p2, iv p3, iv p4, iv p5, iv sel, rv kd, iv ln, rv ca, rv tx, rv b_5, iv 1] [(.int r_18)]))
          rcases hr_18 with ⟨rfl, ht20⟩ | ⟨rfl, ht20⟩
          · skip
            show Go _ _ _ _ (T18.setTop (mkF m 285 #[iv p0, iv p1, iv p2, iv p3, iv p4, iv p5, iv sel, rv kd, iv ln, rv ca, rv tx, rv b_5, iv 1] [(.int 1)]))
            refine go_st (fun t k => XS.iload X18.here hx rfl (hb hby at_285) rfl k) ?_
            show Go _ _ _ _ (T18.setTop (mkF m 287 #[iv p0, iv p1, iv p2, iv p3, iv p4, iv p5, iv sel, rv kd, iv ln, rv ca, rv tx, rv b_5, iv 1] [(.int sel), (.int 1)]))
            refine go_st (fun t k => XS.iconst X18.here hx rfl (hb hby at_287) k) ?_
            show Go _ _ _ _ (T18.setTop (mkF m 288 #[iv p0, iv p1, iv p2, iv p3, iv p4, iv p5, iv sel, rv kd, iv ln, rv ca, rv tx, rv b_5, iv 1] [(.int 2), (.int sel), (.int 1)]))
            refine go_st (fun t k => XS.icmpNo X18.here hx rfl (hb hby at_288) rfl (teq (hs2 : sel = (2 : Int32))).2 k) ?_
            show Go _ _ _ _ (T18.setTop (mkF m 291 #[iv p0, iv p1, iv p2, iv p3, iv p4, iv p5, iv sel, rv kd, iv ln, rv ca, rv tx, rv b_5, iv 1] [(.int 1)]))
            refine go_st (fun t k => XS.aload X18.here hx rfl (hb hby at_291) rfl rfl k) ?_
            show Go _ _ _ _ (T18.setTop (mkF m 293 #[iv p0, iv p1, iv p2, iv p3, iv p4, iv p5, iv sel, rv kd, iv ln, rv ca, rv tx, rv b_5, iv 1] [(.ref tx), (.int 1)]))
            obtain ⟨li21, T21, h21, kk21, t21, kb21, X21, e21, E21, hS21, hk21, hZ21, hown21, Es21, Cs21, Vs21, As21, lla21, llt21, hC21, -, hne21, st21⟩ := ldcCH (vm0 := T18.vm) X18 hx hZ18 hown18 (w122 hw) (str_atoms hw) e18 hS18 (Nat.le_trans (Nat.le_refl _) (Nat.le_refl _)) (hEL hw) (List.mem_of_getElem? (i := 1) rfl) C19.1 (vs := [.int (116 : Int32), .int (114 : Int32), .int (117 : Int32), .int (101 : Int32)]) (z := (4 : Int32)) (by decide) (by decide) (by decide) (g := (mkF m 293 #[iv p0, iv p1, iv p2, iv p3, iv p4, iv p5, iv sel, rv kd, iv ln, rv ca, rv tx, rv b_5, iv 1] [(.ref tx), (.int 1)])) rfl (hb hby at_293) (n := 16) (by decide) (by decide) (by decide) (by decide)
            have C22 : CHr Z consts_1 s.vm h0 T21.vm h21 := CHr.trans C19 hC21
            refine go_st (fun t k => st21 t k) ?_
            show Go _ _ _ _ (T21.setTop (mkF m 295 #[iv p0, iv p1, iv p2, iv p3, iv p4, iv p5, iv sel, rv kd, iv ln, rv ca, rv tx, rv b_5, iv 1] [(.ref li21), (.ref tx), (.int 1)]))
            have sl23 : Str Z h21 li21 t21 trueL := Str.of (n := 4) Es21 Vs21 Cs21 As21 rfl (by decide) (by unfold trueL; exact (chars_cons (by decide) (chars_cons (by decide) (chars_cons (by decide) (chars_cons (by decide) chars_nil)))))
            have f24 : Str Z h21 tx tt cs := ((f17.keep K18 nin0 nin0).ext E21)
            have oe25 : Old Z n0 h18 := (Old.keep oe12 K18 all0)
            have oe26 : Old Z n0 h21 := (Old.ext oe25 E21)
            have f28 : Exa Z h21 tx "java/lang/String" := ((f11.keep K18).ext E21)
            obtain ⟨cq27, kq27, q27a, q27b, q27c⟩ := isOf hZ21 e21 f28
            obtain ⟨_, _, ⟨T27, L27, kk27, nn27⟩, -, X27, ⟨Lc27, hQ27, lq27, yq27, zq27⟩, st27⟩ := X21.virtualBack hx (y := (⟨"java/lang/String", "equals", "(Ljava/lang/Object;)Z"⟩ : MethodName)) (z := (⟨"java/lang/String", "equals", "(Ljava/lang/Object;)Z"⟩ : MethodName)) hown21 (mvT hZ21 (w79 hw)) (mvT hZ21 (w80 hw)) (notFace_of_selects (args := #[]) (mvT hZ21 (w82 hw))) (mvT hZ21 (w82 hw)) (mvT hZ21 (w81 hw)) (by decide) (eqS (W := 1) hZ21 hw (kI := 4) (w9 hw) f24 sl23 (Sta.ext oe26.2 CS) CSn (by decide) (by decide)) q27a q27c (g := (mkF m 295 #[iv p0, iv p1, iv p2, iv p3, iv p4, iv p5, iv sel, rv kd, iv ln, rv ca, rv tx, rv b_5, iv 1] [(.ref li21), (.ref tx), (.int 1)])) rfl (by rw [hml]; rfl) (Steps.refl _) (argsL := [(.ref li21)]) (rest := [(.int 1)]) (lenOf pd_5 rfl) rfl (by show 2 * 0 + _ ≤ _; exact Nat.le_of_eq rfl) (hb hby at_295) (fun _ _ => ⟨rfl, e21, (by decide : 11 + 0 ≤ _), (by decide : 62 + 0 ≤ _)⟩)
            dsimp only [Pt.U, Pt.locs, Pt.cells, Pt.slots] at X27 lq27 yq27 zq27 st27 hQ27
            subst lq27 yq27 zq27
            obtain ⟨h27, e27⟩ : ∃ z, T27.heap = z := ⟨_, rfl⟩
            rw [e27] at hQ27
            obtain ⟨hQ27, rfl, he27⟩ := hQ27
            have N27 := Fr.app N18 (Fr.nil n0)
            rw [he27] at e27
            rcases hQ27 with ⟨rfl, hq27⟩ | ⟨rfl, hq27⟩
            · skip
              refine go_tr st27 ?_
              show Go _ _ _ _ (T27.setTop (mkF m 298 #[iv p0, iv p1, iv p2, iv p3, iv p4, iv p5, iv sel, rv kd, iv ln, rv ca, rv tx, rv b_5, iv 1] [(.int 1), (.int 1)]))
              refine go_st (fun t k => XS.ifNo X27.here hx rfl (hb hby at_298) rfl ((if0 _ _).trans (feq ((by decide) : ¬ ((1 : Int32) = (0 : Int32)))).1) k) ?_
              show Go _ _ _ _ (T27.setTop (mkF m 301 #[iv p0, iv p1, iv p2, iv p3, iv p4, iv p5, iv sel, rv kd, iv ln, rv ca, rv tx, rv b_5, iv 1] [(.int 1)]))
              refine go_st (fun t k => XS.iconst X27.here hx rfl (hb hby at_301) k) ?_
              show Go _ _ _ _ (T27.setTop (mkF m 302 #[iv p0, iv p1, iv p2, iv p3, iv p4, iv p5, iv sel, rv kd, iv ln, rv ca, rv tx, rv b_5, iv 1] [(.int 1), (.int 1)]))
              refine go_st (fun t k => XS.goto X27.here hx rfl (pc0 := 302) (pc' := 306) rfl (hb hby at_302) (by decide) (by decide) k) ?_
              show Go _ _ _ _ (T27.setTop (mkF m 306 #[iv p0, iv p1, iv p2, iv p3, iv p4, iv p5, iv sel, rv kd, iv ln, rv ca, rv tx, rv b_5, iv 1] [(.int 1), (.int 1)]))
              refine go_st (fun t k => XS.icmpNo X27.here hx rfl (hb hby at_306) rfl (teq ((by decide) : (1 : Int32) = (1 : Int32))).2 k) ?_
              show Go _ _ _ _ (T27.setTop (mkF m 309 #[iv p0, iv p1, iv p2, iv p3, iv p4, iv p5, iv sel, rv kd, iv ln, rv ca, rv tx, rv b_5, iv 1] []))
              refine go_st (fun t k => XS.iconst X27.here hx rfl (hb hby at_309) k) ?_
              show Go _ _ _ _ (T27.setTop (mkF m 310 #[iv p0, iv p1, iv p2, iv p3, iv p4, iv p5, iv sel, rv kd, iv ln, rv ca, rv tx, rv b_5, iv 1] [(.int 1)]))
              refine go_st (fun t k => XS.goto X27.here hx rfl (pc0 := 310) (pc' := 314) rfl (hb hby at_310) (by decide) (by decide) k) ?_
              show Go _ _ _ _ (T27.setTop (mkF m 314 #[iv p0, iv p1, iv p2, iv p3, iv p4, iv p5, iv sel, rv kd, iv ln, rv ca, rv tx, rv b_5, iv 1] [(.int 1)]))
              refine go_st (fun t k => XS.istore X27.here hx rfl (hb hby at_314) rfl (l' := #[iv p0, iv p1, iv p2, iv p3, iv p4, iv p5, iv sel, rv kd, iv ln, rv ca, rv tx, rv b_5, iv 1]) rfl k) ?_
              show Go _ _ _ _ (T27.setTop (mkF m 316 #[iv p0, iv p1, iv p2, iv p3, iv p4, iv p5, iv sel, rv kd, iv ln, rv ca, rv tx, rv b_5, iv 1] []))
              refine go_st (fun t k => XS.iload X27.here hx rfl (hb hby at_316) rfl k) ?_
              show Go _ _ _ _ (T27.setTop (mkF m 318 #[iv p0, iv p1, iv p2, iv p3, iv p4, iv p5, iv sel, rv kd, iv ln, rv ca, rv tx, rv b_5, iv 1] [(.int 1)]))
              subst hPP
              have ke29 : Keep h0 h3 [] := (Keep.ext (Keep.refl h0 []) E3)
              have ke30 : Keep h0 h5 [] := (Keep.trans ke29 K5 all0)
              have ke31 : Keep h0 h18 [] := (Keep.trans ke30 K18 all0)
              have ke32 : Keep h0 h21 [] := (Keep.ext ke31 E21)
              obtain ⟨fs, hr, hrun, hended, hR⟩ := X27.leaveW hS21 (by rw [e27]; exact (Nat.le_trans hk21 (Nat.le_refl _))) (v := some (.int 1)) (fun h => by rw [Bd.returns] at h; cases h)
              refine ⟨_, _, ?_, hrun, hended, _, _, rfl, ?_, ?_, hR.1, hR.2.1, hR.2.2.1, hR.2.2.2.mono (by decide) (by decide)⟩
              · exact retN X27 hx (t := .boolean) Bd.returns (by simp) (hb hby at_318) hr
              · show Q_law _ _ _ _ _ _ _ _ _ _ _ _ _ _ _ _ _ _ _ _ _ T27.heap _
                rw [e27]
                exact ⟨rfl, N27, ke32⟩
              · show CHr Z consts_1 s.vm s.heap T27.vm T27.heap
                rw [hh, e27]
                exact CHr.trans C22 (CHv.at X27 hZ21 (hEL hw) C22.1)
            · skip
              refine go_tr st27 ?_
              show Go _ _ _ _ (T27.setTop (mkF m 298 #[iv p0, iv p1, iv p2, iv p3, iv p4, iv p5, iv sel, rv kd, iv ln, rv ca, rv tx, rv b_5, iv 1] [(.int 0), (.int 1)]))
              exact absurd ht20 hq27
          · skip
            show Go _ _ _ _ (T18.setTop (mkF m 285 #[iv p0, iv p1, iv p2, iv p3, iv p4, iv p5, iv sel, rv kd, iv ln, rv ca, rv tx, rv b_5, iv 1] [(.int 0)]))
            refine go_st (fun t k => XS.iload X18.here hx rfl (hb hby at_285) rfl k) ?_
            show Go _ _ _ _ (T18.setTop (mkF m 287 #[iv p0, iv p1, iv p2, iv p3, iv p4, iv p5, iv sel, rv kd, iv ln, rv ca, rv tx, rv b_5, iv 1] [(.int sel), (.int 0)]))
            refine go_st (fun t k => XS.iconst X18.here hx rfl (hb hby at_287) k) ?_
            show Go _ _ _ _ (T18.setTop (mkF m 288 #[iv p0, iv p1, iv p2, iv p3, iv p4, iv p5, iv sel, rv kd, iv ln, rv ca, rv tx, rv b_5, iv 1] [(.int 2), (.int sel), (.int 0)]))
            refine go_st (fun t k => XS.icmpNo X18.here hx rfl (hb hby at_288) rfl (teq (hs2 : sel = (2 : Int32))).2 k) ?_
            show Go _ _ _ _ (T18.setTop (mkF m 291 #[iv p0, iv p1, iv p2, iv p3, iv p4, iv p5, iv sel, rv kd, iv ln, rv ca, rv tx, rv b_5, iv 1] [(.int 0)]))
            refine go_st (fun t k => XS.aload X18.here hx rfl (hb hby at_291) rfl rfl k) ?_
            show Go _ _ _ _ (T18.setTop (mkF m 293 #[iv p0, iv p1, iv p2, iv p3, iv p4, iv p5, iv sel, rv kd, iv ln, rv ca, rv tx, rv b_5, iv 1] [(.ref tx), (.int 0)]))
            obtain ⟨li33, T33, h33, kk33, t33, kb33, X33, e33, E33, hS33, hk33, hZ33, hown33, Es33, Cs33, Vs33, As33, lla33, llt33, hC33, -, hne33, st33⟩ := ldcCH (vm0 := T18.vm) X18 hx hZ18 hown18 (w122 hw) (str_atoms hw) e18 hS18 (Nat.le_trans (Nat.le_refl _) (Nat.le_refl _)) (hEL hw) (List.mem_of_getElem? (i := 1) rfl) C19.1 (vs := [.int (116 : Int32), .int (114 : Int32), .int (117 : Int32), .int (101 : Int32)]) (z := (4 : Int32)) (by decide) (by decide) (by decide) (g := (mkF m 293 #[iv p0, iv p1, iv p2, iv p3, iv p4, iv p5, iv sel, rv kd, iv ln, rv ca, rv tx, rv b_5, iv 1] [(.ref tx), (.int 0)])) rfl (hb hby at_293) (n := 16) (by decide) (by decide) (by decide) (by decide)
            have C34 : CHr Z consts_1 s.vm h0 T33.vm h33 := CHr.trans C19 hC33
            refine go_st (fun t k => st33 t k) ?_
            show Go _ _ _ _ (T33.setTop (mkF m 295 #[iv p0, iv p1, iv p2, iv p3, iv p4, iv p5, iv sel, rv kd, iv ln, rv ca, rv tx, rv b_5, iv 1] [(.ref li33), (.ref tx), (.int 0)]))
            have sl35 : Str Z h33 li33 t33 trueL := Str.of (n := 4) Es33 Vs33 Cs33 As33 rfl (by decide) (by unfold trueL; exact (chars_cons (by decide) (chars_cons (by decide) (chars_cons (by decide) (chars_cons (by decide) chars_nil)))))
            have f36 : Str Z h33 tx tt cs := ((f17.keep K18 nin0 nin0).ext E33)
            have oe37 : Old Z n0 h18 := (Old.keep oe12 K18 all0)
            have oe38 : Old Z n0 h33 := (Old.ext oe37 E33)
            have f40 : Exa Z h33 tx "java/lang/String" := ((f11.keep K18).ext E33)
            obtain ⟨cq39, kq39, q39a, q39b, q39c⟩ := isOf hZ33 e33 f40
            obtain ⟨_, _, ⟨T39, L39, kk39, nn39⟩, -, X39, ⟨Lc39, hQ39, lq39, yq39, zq39⟩, st39⟩ := X33.virtualBack hx (y := (⟨"java/lang/String", "equals", "(Ljava/lang/Object;)Z"⟩ : MethodName)) (z := (⟨"java/lang/String", "equals", "(Ljava/lang/Object;)Z"⟩ : MethodName)) hown33 (mvT hZ33 (w79 hw)) (mvT hZ33 (w80 hw)) (notFace_of_selects (args := #[]) (mvT hZ33 (w82 hw))) (mvT hZ33 (w82 hw)) (mvT hZ33 (w81 hw)) (by decide) (eqS (W := 1) hZ33 hw (kI := 4) (w9 hw) f36 sl35 (Sta.ext oe38.2 CS) CSn (by decide) (by decide)) q39a q39c (g := (mkF m 295 #[iv p0, iv p1, iv p2, iv p3, iv p4, iv p5, iv sel, rv kd, iv ln, rv ca, rv tx, rv b_5, iv 1] [(.ref li33), (.ref tx), (.int 0)])) rfl (by rw [hml]; rfl) (Steps.refl _) (argsL := [(.ref li33)]) (rest := [(.int 0)]) (lenOf pd_5 rfl) rfl (by show 2 * 0 + _ ≤ _; exact Nat.le_of_eq rfl) (hb hby at_295) (fun _ _ => ⟨rfl, e33, (by decide : 11 + 0 ≤ _), (by decide : 62 + 0 ≤ _)⟩)
            dsimp only [Pt.U, Pt.locs, Pt.cells, Pt.slots] at X39 lq39 yq39 zq39 st39 hQ39
            subst lq39 yq39 zq39
            obtain ⟨h39, e39⟩ : ∃ z, T39.heap = z := ⟨_, rfl⟩
            rw [e39] at hQ39
            obtain ⟨hQ39, rfl, he39⟩ := hQ39
            have N39 := Fr.app N18 (Fr.nil n0)
            rw [he39] at e39
            rcases hQ39 with ⟨rfl, hq39⟩ | ⟨rfl, hq39⟩
            · skip
              refine go_tr st39 ?_
              show Go _ _ _ _ (T39.setTop (mkF m 298 #[iv p0, iv p1, iv p2, iv p3, iv p4, iv p5, iv sel, rv kd, iv ln, rv ca, rv tx, rv b_5, iv 1] [(.int 1), (.int 0)]))
              exact absurd hq39 ht20
            · skip
              refine go_tr st39 ?_
              show Go _ _ _ _ (T39.setTop (mkF m 298 #[iv p0, iv p1, iv p2, iv p3, iv p4, iv p5, iv sel, rv kd, iv ln, rv ca, rv tx, rv b_5, iv 1] [(.int 0), (.int 0)]))
              refine go_st (fun t k => XS.ifYes X39.here hx rfl (pc0 := 298) (pc' := 305) rfl (hb hby at_298) rfl ((if0 _ _).trans (teq ((by decide) : (0 : Int32) = (0 : Int32))).1) (by decide) (by decide) k) ?_
              show Go _ _ _ _ (T39.setTop (mkF m 305 #[iv p0, iv p1, iv p2, iv p3, iv p4, iv p5, iv sel, rv kd, iv ln, rv ca, rv tx, rv b_5, iv 1] [(.int 0)]))
              refine go_st (fun t k => XS.iconst X39.here hx rfl (hb hby at_305) k) ?_
              show Go _ _ _ _ (T39.setTop (mkF m 306 #[iv p0, iv p1, iv p2, iv p3, iv p4, iv p5, iv sel, rv kd, iv ln, rv ca, rv tx, rv b_5, iv 1] [(.int 0), (.int 0)]))
              refine go_st (fun t k => XS.icmpNo X39.here hx rfl (hb hby at_306) rfl (teq ((by decide) : (0 : Int32) = (0 : Int32))).2 k) ?_
              show Go _ _ _ _ (T39.setTop (mkF m 309 #[iv p0, iv p1, iv p2, iv p3, iv p4, iv p5, iv sel, rv kd, iv ln, rv ca, rv tx, rv b_5, iv 1] []))
              refine go_st (fun t k => XS.iconst X39.here hx rfl (hb hby at_309) k) ?_
              show Go _ _ _ _ (T39.setTop (mkF m 310 #[iv p0, iv p1, iv p2, iv p3, iv p4, iv p5, iv sel, rv kd, iv ln, rv ca, rv tx, rv b_5, iv 1] [(.int 1)]))
              refine go_st (fun t k => XS.goto X39.here hx rfl (pc0 := 310) (pc' := 314) rfl (hb hby at_310) (by decide) (by decide) k) ?_
              show Go _ _ _ _ (T39.setTop (mkF m 314 #[iv p0, iv p1, iv p2, iv p3, iv p4, iv p5, iv sel, rv kd, iv ln, rv ca, rv tx, rv b_5, iv 1] [(.int 1)]))
              refine go_st (fun t k => XS.istore X39.here hx rfl (hb hby at_314) rfl (l' := #[iv p0, iv p1, iv p2, iv p3, iv p4, iv p5, iv sel, rv kd, iv ln, rv ca, rv tx, rv b_5, iv 1]) rfl k) ?_
              show Go _ _ _ _ (T39.setTop (mkF m 316 #[iv p0, iv p1, iv p2, iv p3, iv p4, iv p5, iv sel, rv kd, iv ln, rv ca, rv tx, rv b_5, iv 1] []))
              refine go_st (fun t k => XS.iload X39.here hx rfl (hb hby at_316) rfl k) ?_
              show Go _ _ _ _ (T39.setTop (mkF m 318 #[iv p0, iv p1, iv p2, iv p3, iv p4, iv p5, iv sel, rv kd, iv ln, rv ca, rv tx, rv b_5, iv 1] [(.int 1)]))
              subst hPP
              have ke41 : Keep h0 h3 [] := (Keep.ext (Keep.refl h0 []) E3)
              have ke42 : Keep h0 h5 [] := (Keep.trans ke41 K5 all0)
              have ke43 : Keep h0 h18 [] := (Keep.trans ke42 K18 all0)
              have ke44 : Keep h0 h33 [] := (Keep.ext ke43 E33)
              obtain ⟨fs, hr, hrun, hended, hR⟩ := X39.leaveW hS33 (by rw [e39]; exact (Nat.le_trans hk33 (Nat.le_refl _))) (v := some (.int 1)) (fun h => by rw [Bd.returns] at h; cases h)
              refine ⟨_, _, ?_, hrun, hended, _, _, rfl, ?_, ?_, hR.1, hR.2.1, hR.2.2.1, hR.2.2.2.mono (by decide) (by decide)⟩
              · exact retN X39 hx (t := .boolean) Bd.returns (by simp) (hb hby at_318) hr
              · show Q_law _ _ _ _ _ _ _ _ _ _ _ _ _ _ _ _ _ _ _ _ _ T39.heap _
                rw [e39]
                exact ⟨rfl, N39, ke44⟩
              · show CHr Z consts_1 s.vm s.heap T39.vm T39.heap
                rw [hh, e39]
                exact CHr.trans C34 (CHv.at X39 hZ33 (hEL hw) C34.1)
        · skip
          obtain ⟨_, _, ⟨T45, L45, kk45, nn45⟩, -, X45, ⟨Lc45, hQ45, lq45, yq45, zq45⟩, st45⟩ := Jvm.LawKit.callS X16 hx (y := (⟨"com/example/nudge/nudge/tree/Node", "isTrue", "(Lcom/example/nudge/nudge/tree/Node;)Z"⟩ : MethodName)) hown3 (mvT hZ3 (w104 hw)) (mvT hZ3 (w105 hw)) (mvT hZ3 (w39 hw)) (mvT hZ3 (w106 hw)) (by decide) (backOf (W := 0) (rm_isT0 l Z a0 hw [] b_5 kd gB h5 n0 (Nat.le_trans Z0 sz7) p5_1 p5_2 GSB (fun q => hs2 (hkB.mpr q)) oe12) hZ3 (w106 hw) (w39 hw) (by decide) (by decide)) (g := (mkF m 282 #[iv p0, iv p1, iv p2, iv p3, iv p4, iv p5, iv sel, rv kd, iv ln, rv ca, rv tx, rv b_5, iv 1] [(.ref b_5)])) rfl (by rw [hml]; rfl) (argsL := [(.ref b_5)]) (rest := []) (lenOf pd_11 rfl) rfl (by show 2 * 0 + _ ≤ _; exact Nat.le_of_eq rfl) (hb hby at_282) (fun _ _ => ⟨rfl, e16, (by decide : 7 + 0 ≤ _), (by decide : 22 + 0 ≤ _)⟩)
          dsimp only [Pt.U, Pt.locs, Pt.cells, Pt.slots] at X45 lq45 yq45 zq45 st45 hQ45
          subst lq45 yq45 zq45
          obtain ⟨h45, e45⟩ : ∃ z, T45.heap = z := ⟨_, rfl⟩
          rw [e45] at hQ45
          obtain ⟨rfl, N45q, he45⟩ := hQ45
          have N45 := Fr.app N16 N45q
          rw [he45] at e45
          refine go_st st45 ?_
          show Go _ _ _ _ (T45.setTop (mkF m 285 #[iv p0, iv p1, iv p2, iv p3, iv p4, iv p5, iv sel, rv kd, iv ln, rv ca, rv tx, rv b_5, iv 1] [(.int 0)]))
          refine go_st (fun t k => XS.iload X45.here hx rfl (hb hby at_285) rfl k) ?_
          show Go _ _ _ _ (T45.setTop (mkF m 287 #[iv p0, iv p1, iv p2, iv p3, iv p4, iv p5, iv sel, rv kd, iv ln, rv ca, rv tx, rv b_5, iv 1] [(.int sel), (.int 0)]))
          refine go_st (fun t k => XS.iconst X45.here hx rfl (hb hby at_287) k) ?_
          show Go _ _ _ _ (T45.setTop (mkF m 288 #[iv p0, iv p1, iv p2, iv p3, iv p4, iv p5, iv sel, rv kd, iv ln, rv ca, rv tx, rv b_5, iv 1] [(.int 2), (.int sel), (.int 0)]))
          refine go_st (fun t k => XS.icmpYes X45.here hx rfl (pc0 := 288) (pc' := 305) rfl (hb hby at_288) rfl (feq (hs2 : ¬ (sel = (2 : Int32)))).2 (by decide) (by decide) k) ?_
          show Go _ _ _ _ (T45.setTop (mkF m 305 #[iv p0, iv p1, iv p2, iv p3, iv p4, iv p5, iv sel, rv kd, iv ln, rv ca, rv tx, rv b_5, iv 1] [(.int 0)]))
          refine go_st (fun t k => XS.iconst X45.here hx rfl (hb hby at_305) k) ?_
          show Go _ _ _ _ (T45.setTop (mkF m 306 #[iv p0, iv p1, iv p2, iv p3, iv p4, iv p5, iv sel, rv kd, iv ln, rv ca, rv tx, rv b_5, iv 1] [(.int 0), (.int 0)]))
          refine go_st (fun t k => XS.icmpNo X45.here hx rfl (hb hby at_306) rfl (teq ((by decide) : (0 : Int32) = (0 : Int32))).2 k) ?_
          show Go _ _ _ _ (T45.setTop (mkF m 309 #[iv p0, iv p1, iv p2, iv p3, iv p4, iv p5, iv sel, rv kd, iv ln, rv ca, rv tx, rv b_5, iv 1] []))
          refine go_st (fun t k => XS.iconst X45.here hx rfl (hb hby at_309) k) ?_
          show Go _ _ _ _ (T45.setTop (mkF m 310 #[iv p0, iv p1, iv p2, iv p3, iv p4, iv p5, iv sel, rv kd, iv ln, rv ca, rv tx, rv b_5, iv 1] [(.int 1)]))
          refine go_st (fun t k => XS.goto X45.here hx rfl (pc0 := 310) (pc' := 314) rfl (hb hby at_310) (by decide) (by decide) k) ?_
          show Go _ _ _ _ (T45.setTop (mkF m 314 #[iv p0, iv p1, iv p2, iv p3, iv p4, iv p5, iv sel, rv kd, iv ln, rv ca, rv tx, rv b_5, iv 1] [(.int 1)]))
          refine go_st (fun t k => XS.istore X45.here hx rfl (hb hby at_314) rfl (l' := #[iv p0, iv p1, iv p2, iv p3, iv p4, iv p5, iv sel, rv kd, iv ln, rv ca, rv tx, rv b_5, iv 1]) rfl k) ?_
          show Go _ _ _ _ (T45.setTop (mkF m 316 #[iv p0, iv p1, iv p2, iv p3, iv p4, iv p5, iv sel, rv kd, iv ln, rv ca, rv tx, rv b_5, iv 1] []))
          refine go_st (fun t k => XS.iload X45.here hx rfl (hb hby at_316) rfl k) ?_
          show Go _ _ _ _ (T45.setTop (mkF m 318 #[iv p0, iv p1, iv p2, iv p3, iv p4, iv p5, iv sel, rv kd, iv ln, rv ca, rv tx, rv b_5, iv 1] [(.int 1)]))
          subst hPP
          have ke46 : Keep h0 h3 [] := (Keep.ext (Keep.refl h0 []) E3)
          have ke47 : Keep h0 h5 [] := (Keep.trans ke46 K5 all0)
          obtain ⟨fs, hr, hrun, hended, hR⟩ := X45.leaveW hS3 (by rw [e45]; exact (Nat.le_trans hk3 K5.1)) (v := some (.int 1)) (fun h => by rw [Bd.returns] at h; cases h)
          refine ⟨_, _, ?_, hrun, hended, _, _, rfl, ?_, ?_, hR.1, hR.2.1, hR.2.2.1, hR.2.2.2.mono (by decide) (by decide)⟩
          · exact retN X45 hx (t := .boolean) Bd.returns (by simp) (hb hby at_318) hr
          · show Q_law _ _ _ _ _ _ _ _ _ _ _ _ _ _ _ _ _ _ _ _ _ T45.heap _
            rw [e45]
            exact ⟨rfl, N45, ke47⟩
          · show CHr Z consts_1 s.vm s.heap T45.vm T45.heap
            rw [hh, e45]
            exact CHr.trans C6 (CHv.at X45 hZ3 (hEL hw) C6.1)
      · skip
        obtain ⟨_, _, ⟨T48, L48, kk48, nn48⟩, -, X48, ⟨Lc48, hQ48, lq48, yq48, zq48⟩, st48⟩ := Jvm.LawKit.callS X15 hx (y := (⟨"com/example/nudge/nudge/tree/Node", "isString", "(Lcom/example/nudge/nudge/tree/Node;Ljava/lang/String;)Z"⟩ : MethodName)) hown3 (mvT hZ3 (w97 hw)) (mvT hZ3 (w98 hw)) (mvT hZ3 (w39 hw)) (mvT hZ3 (w99 hw)) (by decide) (backOf (W := 0) (rm_isS0 l Z a0 hw [] b_5 tx kd gS h5 n0 (Nat.le_trans Z0 sz7) p5_1 f11 p5_2 p5_3 GSS (fun q => hs0 (hkS.mpr q)) oe12) hZ3 (w99 hw) (w39 hw) (by decide) (by decide)) (g := (mkF m 252 #[iv p0, iv p1, iv p2, iv p3, iv p4, iv p5, iv sel, rv kd, iv ln, rv ca, rv tx, rv b_5, iv 1] [(.ref tx), (.ref b_5)])) rfl (by rw [hml]; rfl) (argsL := [(.ref b_5), (.ref tx)]) (rest := []) (lenOf pd_10 rfl) rfl (by show 2 * 0 + _ ≤ _; exact Nat.le_of_eq rfl) (hb hby at_252) (fun _ _ => ⟨rfl, e15, (by decide : 7 + 0 ≤ _), (by decide : 22 + 0 ≤ _)⟩)
        dsimp only [Pt.U, Pt.locs, Pt.cells, Pt.slots] at X48 lq48 yq48 zq48 st48 hQ48
        subst lq48 yq48 zq48
        obtain ⟨h48, e48⟩ : ∃ z, T48.heap = z := ⟨_, rfl⟩
        rw [e48] at hQ48
        obtain ⟨rfl, N48q, he48⟩ := hQ48
        have N48 := Fr.app N15 N48q
        rw [he48] at e48
        refine go_st st48 ?_
        show Go _ _ _ _ (T48.setTop (mkF m 255 #[iv p0, iv p1, iv p2, iv p3, iv p4, iv p5, iv sel, rv kd, iv ln, rv ca, rv tx, rv b_5, iv 1] [(.int 0)]))
        refine go_st (fun t k => XS.iload X48.here hx rfl (hb hby at_255) rfl k) ?_
        show Go _ _ _ _ (T48.setTop (mkF m 257 #[iv p0, iv p1, iv p2, iv p3, iv p4, iv p5, iv sel, rv kd, iv ln, rv ca, rv tx, rv b_5, iv 1] [(.int sel), (.int 0)]))
        refine go_st (fun t k => XS.ifYes X48.here hx rfl (pc0 := 257) (pc' := 264) rfl (hb hby at_257) rfl ((if0 _ _).trans (feq (hs0 : ¬ (sel = (0 : Int32)))).2) (by decide) (by decide) k) ?_
        show Go _ _ _ _ (T48.setTop (mkF m 264 #[iv p0, iv p1, iv p2, iv p3, iv p4, iv p5, iv sel, rv kd, iv ln, rv ca, rv tx, rv b_5, iv 1] [(.int 0)]))
        refine go_st (fun t k => XS.iconst X48.here hx rfl (hb hby at_264) k) ?_
        show Go _ _ _ _ (T48.setTop (mkF m 265 #[iv p0, iv p1, iv p2, iv p3, iv p4, iv p5, iv sel, rv kd, iv ln, rv ca, rv tx, rv b_5, iv 1] [(.int 0), (.int 0)]))
        refine go_st (fun t k => XS.icmpNo X48.here hx rfl (hb hby at_265) rfl (teq ((by decide) : (0 : Int32) = (0 : Int32))).2 k) ?_
        show Go _ _ _ _ (T48.setTop (mkF m 268 #[iv p0, iv p1, iv p2, iv p3, iv p4, iv p5, iv sel, rv kd, iv ln, rv ca, rv tx, rv b_5, iv 1] []))
        refine go_st (fun t k => XS.iconst X48.here hx rfl (hb hby at_268) k) ?_
        show Go _ _ _ _ (T48.setTop (mkF m 269 #[iv p0, iv p1, iv p2, iv p3, iv p4, iv p5, iv sel, rv kd, iv ln, rv ca, rv tx, rv b_5, iv 1] [(.int 1)]))
        refine go_st (fun t k => XS.goto X48.here hx rfl (pc0 := 269) (pc' := 273) rfl (hb hby at_269) (by decide) (by decide) k) ?_
        show Go _ _ _ _ (T48.setTop (mkF m 273 #[iv p0, iv p1, iv p2, iv p3, iv p4, iv p5, iv sel, rv kd, iv ln, rv ca, rv tx, rv b_5, iv 1] [(.int 1)]))
        refine go_st (fun t k => XS.istore X48.here hx rfl (hb hby at_273) rfl (l' := #[iv p0, iv p1, iv p2, iv p3, iv p4, iv p5, iv sel, rv kd, iv ln, rv ca, rv tx, rv b_5, iv 1]) rfl k) ?_
        show Go _ _ _ _ (T48.setTop (mkF m 275 #[iv p0, iv p1, iv p2, iv p3, iv p4, iv p5, iv sel, rv kd, iv ln, rv ca, rv tx, rv b_5, iv 1] []))
        refine go_st (fun t k => XS.iload X48.here hx rfl (hb hby at_275) rfl k) ?_
        show Go _ _ _ _ (T48.setTop (mkF m 277 #[iv p0, iv p1, iv p2, iv p3, iv p4, iv p5, iv sel, rv kd, iv ln, rv ca, rv tx, rv b_5, iv 1] [(.int 1)]))
        refine go_st (fun t k => XS.ifNo X48.here hx rfl (hb hby at_277) rfl ((if0 _ _).trans (feq ((by decide) : ¬ ((1 : Int32) = (0 : Int32)))).1) k) ?_
        show Go _ _ _ _ (T48.setTop (mkF m 280 #[iv p0, iv p1, iv p2, iv p3, iv p4, iv p5, iv sel, rv kd, iv ln, rv ca, rv tx, rv b_5, iv 1] []))
        refine go_st (fun t k => XS.aload X48.here hx rfl (hb hby at_280) rfl rfl k) ?_
        show Go _ _ _ _ (T48.setTop (mkF m 282 #[iv p0, iv p1, iv p2, iv p3, iv p4, iv p5, iv sel, rv kd, iv ln, rv ca, rv tx, rv b_5, iv 1] [(.ref b_5)]))
        by_cases hs2 : sel = 2
        · skip
          have f49 : Str Z h5 tx tt cs := (hstr.keep K5 nin0 nin0)
          obtain ⟨_, _, ⟨T50, L50, kk50, nn50⟩, -, X50, hs250, hg50, ⟨Lc50, hQ50, lq50, yq50, zq50, hC50⟩, st50⟩ := callSS X48 hx (y := (⟨"com/example/nudge/nudge/tree/Node", "isTrue", "(Lcom/example/nudge/nudge/tree/Node;)Z"⟩ : MethodName)) hown3 (mvT hZ3 (w104 hw)) (mvT hZ3 (w105 hw)) (mvT hZ3 (w39 hw)) (mvT hZ3 (w106 hw)) (by decide) (backOfSH (vm0 := vm3) (W := 0) (rm_isT1 l Z a0 hw [] b_5 tx tt cs kd gB G1 h5 n0 (Nat.le_trans Z0 sz7) p5_1 p5_2 p5_3 f11 f49 GSB CS CSn (hkB.mp hs2) oe12) hZ3 (w106 hw) (w39 hw) (by decide) (by decide) (hEL hw) C6.1) (g := (mkF m 282 #[iv p0, iv p1, iv p2, iv p3, iv p4, iv p5, iv sel, rv kd, iv ln, rv ca, rv tx, rv b_5, iv 1] [(.ref b_5)])) rfl (by rw [hml]; rfl) (argsL := [(.ref b_5)]) (rest := []) (lenOf pd_11 rfl) rfl (by show 2 * 0 + _ ≤ _; exact Nat.le_of_eq rfl) (hb hby at_282) (fun _ _ => ⟨rfl, e48, (by decide : 7 + 2 ≤ _), (by decide : 22 + 20 ≤ _)⟩)
          dsimp only [Pt.U, Pt.locs, Pt.cells, Pt.slots] at X50 hs250 hg50 lq50 yq50 zq50 st50 hQ50 hC50
          subst lq50 yq50 zq50
          rw [e48] at hg50
          obtain ⟨X50, hS50, hZ50, hown50⟩ := rebS (vm0 := vm3) hS3 (Nat.le_trans hk3 K5.1) X50 hs250 hg50 hZ3 hown3
          obtain ⟨h50, e50⟩ : ∃ z, T50.heap = z := ⟨_, rfl⟩
          rw [e50] at hQ50 hg50 hC50 hS50
          obtain ⟨r_50, rfl, N50q, K50, hr_50⟩ := hQ50
          have N50 := Fr.app N48 N50q
          have C51 : CHr Z consts_1 s.vm h0 T50.vm h50 := CHr.trans C6 hC50
          refine go_tr st50 ?_
          show Go _ _ _ _ (T50.setTop (mkF m 285 #[iv p0, iv p1, iv p2, iv p3, iv p4, iv p5, iv sel, rv kd, iv ln, rv ca, rv tx, rv b_5, iv 1] [(.int r_50)]))
          rcases hr_50 with ⟨rfl, ht52⟩ | ⟨rfl, ht52⟩
          · skip
            show Go _ _ _ _ (T50.setTop (mkF m 285 #[iv p0, iv p1, iv p2, iv p3, iv p4, iv p5, iv sel, rv kd, iv ln, rv ca, rv tx, rv b_5, iv 1] [(.int 1)]))
            refine go_st (fun t k => XS.iload X50.here hx rfl (hb hby at_285) rfl k) ?_
            show Go _ _ _ _ (T50.setTop (mkF m 287 #[iv p0, iv p1, iv p2, iv p3, iv p4, iv p5, iv sel, rv kd, iv ln, rv ca, rv tx, rv b_5, iv 1] [(.int sel), (.int 1)]))
            refine go_st (fun t k => XS.iconst X50.here hx rfl (hb hby at_287) k) ?_
            show Go _ _ _ _ (T50.setTop (mkF m 288 #[iv p0, iv p1, iv p2, iv p3, iv p4, iv p5, iv sel, rv kd, iv ln, rv ca, rv tx, rv b_5, iv 1] [(.int 2), (.int sel), (.int 1)]))
            refine go_st (fun t k => XS.icmpNo X50.here hx rfl (hb hby at_288) rfl (teq (hs2 : sel = (2 : Int32))).2 k) ?_
            show Go _ _ _ _ (T50.setTop (mkF m 291 #[iv p0, iv p1, iv p2, iv p3, iv p4, iv p5, iv sel, rv kd, iv ln, rv ca, rv tx, rv b_5, iv 1] [(.int 1)]))
            refine go_st (fun t k => XS.aload X50.here hx rfl (hb hby at_291) rfl rfl k) ?_
            show Go _ _ _ _ (T50.setTop (mkF m 293 #[iv p0, iv p1, iv p2, iv p3, iv p4, iv p5, iv sel, rv kd, iv ln, rv ca, rv tx, rv b_5, iv 1] [(.ref tx), (.int 1)]))
            obtain ⟨li53, T53, h53, kk53, t53, kb53, X53, e53, E53, hS53, hk53, hZ53, hown53, Es53, Cs53, Vs53, As53, lla53, llt53, hC53, -, hne53, st53⟩ := ldcCH (vm0 := T50.vm) X50 hx hZ50 hown50 (w122 hw) (str_atoms hw) e50 hS50 (Nat.le_trans (Nat.le_refl _) (Nat.le_refl _)) (hEL hw) (List.mem_of_getElem? (i := 1) rfl) C51.1 (vs := [.int (116 : Int32), .int (114 : Int32), .int (117 : Int32), .int (101 : Int32)]) (z := (4 : Int32)) (by decide) (by decide) (by decide) (g := (mkF m 293 #[iv p0, iv p1, iv p2, iv p3, iv p4, iv p5, iv sel, rv kd, iv ln, rv ca, rv tx, rv b_5, iv 1] [(.ref tx), (.int 1)])) rfl (hb hby at_293) (n := 16) (by decide) (by decide) (by decide) (by decide)
            have C54 : CHr Z consts_1 s.vm h0 T53.vm h53 := CHr.trans C51 hC53
            refine go_st (fun t k => st53 t k) ?_
            show Go _ _ _ _ (T53.setTop (mkF m 295 #[iv p0, iv p1, iv p2, iv p3, iv p4, iv p5, iv sel, rv kd, iv ln, rv ca, rv tx, rv b_5, iv 1] [(.ref li53), (.ref tx), (.int 1)]))
            have sl55 : Str Z h53 li53 t53 trueL := Str.of (n := 4) Es53 Vs53 Cs53 As53 rfl (by decide) (by unfold trueL; exact (chars_cons (by decide) (chars_cons (by decide) (chars_cons (by decide) (chars_cons (by decide) chars_nil)))))
            have f56 : Str Z h53 tx tt cs := ((f49.keep K50 nin0 nin0).ext E53)
            have oe57 : Old Z n0 h50 := (Old.keep oe12 K50 all0)
            have oe58 : Old Z n0 h53 := (Old.ext oe57 E53)
            have f60 : Exa Z h53 tx "java/lang/String" := ((f11.keep K50).ext E53)
            obtain ⟨cq59, kq59, q59a, q59b, q59c⟩ := isOf hZ53 e53 f60
            obtain ⟨_, _, ⟨T59, L59, kk59, nn59⟩, -, X59, ⟨Lc59, hQ59, lq59, yq59, zq59⟩, st59⟩ := X53.virtualBack hx (y := (⟨"java/lang/String", "equals", "(Ljava/lang/Object;)Z"⟩ : MethodName)) (z := (⟨"java/lang/String", "equals", "(Ljava/lang/Object;)Z"⟩ : MethodName)) hown53 (mvT hZ53 (w79 hw)) (mvT hZ53 (w80 hw)) (notFace_of_selects (args := #[]) (mvT hZ53 (w82 hw))) (mvT hZ53 (w82 hw)) (mvT hZ53 (w81 hw)) (by decide) (eqS (W := 1) hZ53 hw (kI := 4) (w9 hw) f56 sl55 (Sta.ext oe58.2 CS) CSn (by decide) (by decide)) q59a q59c (g := (mkF m 295 #[iv p0, iv p1, iv p2, iv p3, iv p4, iv p5, iv sel, rv kd, iv ln, rv ca, rv tx, rv b_5, iv 1] [(.ref li53), (.ref tx), (.int 1)])) rfl (by rw [hml]; rfl) (Steps.refl _) (argsL := [(.ref li53)]) (rest := [(.int 1)]) (lenOf pd_5 rfl) rfl (by show 2 * 0 + _ ≤ _; exact Nat.le_of_eq rfl) (hb hby at_295) (fun _ _ => ⟨rfl, e53, (by decide : 11 + 0 ≤ _), (by decide : 62 + 0 ≤ _)⟩)
            dsimp only [Pt.U, Pt.locs, Pt.cells, Pt.slots] at X59 lq59 yq59 zq59 st59 hQ59
            subst lq59 yq59 zq59
            obtain ⟨h59, e59⟩ : ∃ z, T59.heap = z := ⟨_, rfl⟩
            rw [e59] at hQ59
            obtain ⟨hQ59, rfl, he59⟩ := hQ59
            have N59 := Fr.app N50 (Fr.nil n0)
            rw [he59] at e59
            rcases hQ59 with ⟨rfl, hq59⟩ | ⟨rfl, hq59⟩
            · skip
              refine go_tr st59 ?_
              show Go _ _ _ _ (T59.setTop (mkF m 298 #[iv p0, iv p1, iv p2, iv p3, iv p4, iv p5, iv sel, rv kd, iv ln, rv ca, rv tx, rv b_5, iv 1] [(.int 1), (.int 1)]))
              refine go_st (fun t k => XS.ifNo X59.here hx rfl (hb hby at_298) rfl ((if0 _ _).trans (feq ((by decide) : ¬ ((1 : Int32) = (0 : Int32)))).1) k) ?_
              show Go _ _ _ _ (T59.setTop (mkF m 301 #[iv p0, iv p1, iv p2, iv p3, iv p4, iv p5, iv sel, rv kd, iv ln, rv ca, rv tx, rv b_5, iv 1] [(.int 1)]))
              refine go_st (fun t k => XS.iconst X59.here hx rfl (hb hby at_301) k) ?_
              show Go _ _ _ _ (T59.setTop (mkF m 302 #[iv p0, iv p1, iv p2, iv p3, iv p4, iv p5, iv sel, rv kd, iv ln, rv ca, rv tx, rv b_5, iv 1] [(.int 1), (.int 1)]))
              refine go_st (fun t k => XS.goto X59.here hx rfl (pc0 := 302) (pc' := 306) rfl (hb hby at_302) (by decide) (by decide) k) ?_
              show Go _ _ _ _ (T59.setTop (mkF m 306 #[iv p0, iv p1, iv p2, iv p3, iv p4, iv p5, iv sel, rv kd, iv ln, rv ca, rv tx, rv b_5, iv 1] [(.int 1), (.int 1)]))
              refine go_st (fun t k => XS.icmpNo X59.here hx rfl (hb hby at_306) rfl (teq ((by decide) : (1 : Int32) = (1 : Int32))).2 k) ?_
              show Go _ _ _ _ (T59.setTop (mkF m 309 #[iv p0, iv p1, iv p2, iv p3, iv p4, iv p5, iv sel, rv kd, iv ln, rv ca, rv tx, rv b_5, iv 1] []))
              refine go_st (fun t k => XS.iconst X59.here hx rfl (hb hby at_309) k) ?_
              show Go _ _ _ _ (T59.setTop (mkF m 310 #[iv p0, iv p1, iv p2, iv p3, iv p4, iv p5, iv sel, rv kd, iv ln, rv ca, rv tx, rv b_5, iv 1] [(.int 1)]))
              refine go_st (fun t k => XS.goto X59.here hx rfl (pc0 := 310) (pc' := 314) rfl (hb hby at_310) (by decide) (by decide) k) ?_
              show Go _ _ _ _ (T59.setTop (mkF m 314 #[iv p0, iv p1, iv p2, iv p3, iv p4, iv p5, iv sel, rv kd, iv ln, rv ca, rv tx, rv b_5, iv 1] [(.int 1)]))
              refine go_st (fun t k => XS.istore X59.here hx rfl (hb hby at_314) rfl (l' := #[iv p0, iv p1, iv p2, iv p3, iv p4, iv p5, iv sel, rv kd, iv ln, rv ca, rv tx, rv b_5, iv 1]) rfl k) ?_
              show Go _ _ _ _ (T59.setTop (mkF m 316 #[iv p0, iv p1, iv p2, iv p3, iv p4, iv p5, iv sel, rv kd, iv ln, rv ca, rv tx, rv b_5, iv 1] []))
              refine go_st (fun t k => XS.iload X59.here hx rfl (hb hby at_316) rfl k) ?_
              show Go _ _ _ _ (T59.setTop (mkF m 318 #[iv p0, iv p1, iv p2, iv p3, iv p4, iv p5, iv sel, rv kd, iv ln, rv ca, rv tx, rv b_5, iv 1] [(.int 1)]))
              subst hPP
              have ke61 : Keep h0 h3 [] := (Keep.ext (Keep.refl h0 []) E3)
              have ke62 : Keep h0 h5 [] := (Keep.trans ke61 K5 all0)
              have ke63 : Keep h0 h50 [] := (Keep.trans ke62 K50 all0)
              have ke64 : Keep h0 h53 [] := (Keep.ext ke63 E53)
              obtain ⟨fs, hr, hrun, hended, hR⟩ := X59.leaveW hS53 (by rw [e59]; exact (Nat.le_trans hk53 (Nat.le_refl _))) (v := some (.int 1)) (fun h => by rw [Bd.returns] at h; cases h)
              refine ⟨_, _, ?_, hrun, hended, _, _, rfl, ?_, ?_, hR.1, hR.2.1, hR.2.2.1, hR.2.2.2.mono (by decide) (by decide)⟩
              · exact retN X59 hx (t := .boolean) Bd.returns (by simp) (hb hby at_318) hr
              · show Q_law _ _ _ _ _ _ _ _ _ _ _ _ _ _ _ _ _ _ _ _ _ T59.heap _
                rw [e59]
                exact ⟨rfl, N59, ke64⟩
              · show CHr Z consts_1 s.vm s.heap T59.vm T59.heap
                rw [hh, e59]
                exact CHr.trans C54 (CHv.at X59 hZ53 (hEL hw) C54.1)
            · skip
              refine go_tr st59 ?_
              show Go _ _ _ _ (T59.setTop (mkF m 298 #[iv p0, iv p1, iv p2, iv p3, iv p4, iv p5, iv sel, rv kd, iv ln, rv ca, rv tx, rv b_5, iv 1] [(.int 0), (.int 1)]))
              exact absurd ht52 hq59
          · skip
            show Go _ _ _ _ (T50.setTop (mkF m 285 #[iv p0, iv p1, iv p2, iv p3, iv p4, iv p5, iv sel, rv kd, iv ln, rv ca, rv tx, rv b_5, iv 1] [(.int 0)]))
            refine go_st (fun t k => XS.iload X50.here hx rfl (hb hby at_285) rfl k) ?_
            show Go _ _ _ _ (T50.setTop (mkF m 287 #[iv p0, iv p1, iv p2, iv p3, iv p4, iv p5, iv sel, rv kd, iv ln, rv ca, rv tx, rv b_5, iv 1] [(.int sel), (.int 0)]))
            refine go_st (fun t k => XS.iconst X50.here hx rfl (hb hby at_287) k) ?_
            show Go _ _ _ _ (T50.setTop (mkF m 288 #[iv p0, iv p1, iv p2, iv p3, iv p4, iv p5, iv sel, rv kd, iv ln, rv ca, rv tx, rv b_5, iv 1] [(.int 2), (.int sel), (.int 0)]))
            refine go_st (fun t k => XS.icmpNo X50.here hx rfl (hb hby at_288) rfl (teq (hs2 : sel = (2 : Int32))).2 k) ?_
            show Go _ _ _ _ (T50.setTop (mkF m 291 #[iv p0, iv p1, iv p2, iv p3, iv p4, iv p5, iv sel, rv kd, iv ln, rv ca, rv tx, rv b_5, iv 1] [(.int 0)]))
            refine go_st (fun t k => XS.aload X50.here hx rfl (hb hby at_291) rfl rfl k) ?_
            show Go _ _ _ _ (T50.setTop (mkF m 293 #[iv p0, iv p1, iv p2, iv p3, iv p4, iv p5, iv sel, rv kd, iv ln, rv ca, rv tx, rv b_5, iv 1] [(.ref tx), (.int 0)]))
            obtain ⟨li65, T65, h65, kk65, t65, kb65, X65, e65, E65, hS65, hk65, hZ65, hown65, Es65, Cs65, Vs65, As65, lla65, llt65, hC65, -, hne65, st65⟩ := ldcCH (vm0 := T50.vm) X50 hx hZ50 hown50 (w122 hw) (str_atoms hw) e50 hS50 (Nat.le_trans (Nat.le_refl _) (Nat.le_refl _)) (hEL hw) (List.mem_of_getElem? (i := 1) rfl) C51.1 (vs := [.int (116 : Int32), .int (114 : Int32), .int (117 : Int32), .int (101 : Int32)]) (z := (4 : Int32)) (by decide) (by decide) (by decide) (g := (mkF m 293 #[iv p0, iv p1, iv p2, iv p3, iv p4, iv p5, iv sel, rv kd, iv ln, rv ca, rv tx, rv b_5, iv 1] [(.ref tx), (.int 0)])) rfl (hb hby at_293) (n := 16) (by decide) (by decide) (by decide) (by decide)
            have C66 : CHr Z consts_1 s.vm h0 T65.vm h65 := CHr.trans C51 hC65
            refine go_st (fun t k => st65 t k) ?_
            show Go _ _ _ _ (T65.setTop (mkF m 295 #[iv p0, iv p1, iv p2, iv p3, iv p4, iv p5, iv sel, rv kd, iv ln, rv ca, rv tx, rv b_5, iv 1] [(.ref li65), (.ref tx), (.int 0)]))
            have sl67 : Str Z h65 li65 t65 trueL := Str.of (n := 4) Es65 Vs65 Cs65 As65 rfl (by decide) (by unfold trueL; exact (chars_cons (by decide) (chars_cons (by decide) (chars_cons (by decide) (chars_cons (by decide) chars_nil)))))
            have f68 : Str Z h65 tx tt cs := ((f49.keep K50 nin0 nin0).ext E65)
            have oe69 : Old Z n0 h50 := (Old.keep oe12 K50 all0)
            have oe70 : Old Z n0 h65 := (Old.ext oe69 E65)
            have f72 : Exa Z h65 tx "java/lang/String" := ((f11.keep K50).ext E65)
            obtain ⟨cq71, kq71, q71a, q71b, q71c⟩ := isOf hZ65 e65 f72
            obtain ⟨_, _, ⟨T71, L71, kk71, nn71⟩, -, X71, ⟨Lc71, hQ71, lq71, yq71, zq71⟩, st71⟩ := X65.virtualBack hx (y := (⟨"java/lang/String", "equals", "(Ljava/lang/Object;)Z"⟩ : MethodName)) (z := (⟨"java/lang/String", "equals", "(Ljava/lang/Object;)Z"⟩ : MethodName)) hown65 (mvT hZ65 (w79 hw)) (mvT hZ65 (w80 hw)) (notFace_of_selects (args := #[]) (mvT hZ65 (w82 hw))) (mvT hZ65 (w82 hw)) (mvT hZ65 (w81 hw)) (by decide) (eqS (W := 1) hZ65 hw (kI := 4) (w9 hw) f68 sl67 (Sta.ext oe70.2 CS) CSn (by decide) (by decide)) q71a q71c (g := (mkF m 295 #[iv p0, iv p1, iv p2, iv p3, iv p4, iv p5, iv sel, rv kd, iv ln, rv ca, rv tx, rv b_5, iv 1] [(.ref li65), (.ref tx), (.int 0)])) rfl (by rw [hml]; rfl) (Steps.refl _) (argsL := [(.ref li65)]) (rest := [(.int 0)]) (lenOf pd_5 rfl) rfl (by show 2 * 0 + _ ≤ _; exact Nat.le_of_eq rfl) (hb hby at_295) (fun _ _ => ⟨rfl, e65, (by decide : 11 + 0 ≤ _), (by decide : 62 + 0 ≤ _)⟩)
            dsimp only [Pt.U, Pt.locs, Pt.cells, Pt.slots] at X71 lq71 yq71 zq71 st71 hQ71
            subst lq71 yq71 zq71
            obtain ⟨h71, e71⟩ : ∃ z, T71.heap = z := ⟨_, rfl⟩
            rw [e71] at hQ71
            obtain ⟨hQ71, rfl, he71⟩ := hQ71
            have N71 := Fr.app N50 (Fr.nil n0)
            rw [he71] at e71
            rcases hQ71 with ⟨rfl, hq71⟩ | ⟨rfl, hq71⟩
            · skip
              refine go_tr st71 ?_
              show Go _ _ _ _ (T71.setTop (mkF m 298 #[iv p0, iv p1, iv p2, iv p3, iv p4, iv p5, iv sel, rv kd, iv ln, rv ca, rv tx, rv b_5, iv 1] [(.int 1), (.int 0)]))
              exact absurd hq71 ht52
            · skip
              refine go_tr st71 ?_
              show Go _ _ _ _ (T71.setTop (mkF m 298 #[iv p0, iv p1, iv p2, iv p3, iv p4, iv p5, iv sel, rv kd, iv ln, rv ca, rv tx, rv b_5, iv 1] [(.int 0), (.int 0)]))
              refine go_st (fun t k => XS.ifYes X71.here hx rfl (pc0 := 298) (pc' := 305) rfl (hb hby at_298) rfl ((if0 _ _).trans (teq ((by decide) : (0 : Int32) = (0 : Int32))).1) (by decide) (by decide) k) ?_
              show Go _ _ _ _ (T71.setTop (mkF m 305 #[iv p0, iv p1, iv p2, iv p3, iv p4, iv p5, iv sel, rv kd, iv ln, rv ca, rv tx, rv b_5, iv 1] [(.int 0)]))
              refine go_st (fun t k => XS.iconst X71.here hx rfl (hb hby at_305) k) ?_
              show Go _ _ _ _ (T71.setTop (mkF m 306 #[iv p0, iv p1, iv p2, iv p3, iv p4, iv p5, iv sel, rv kd, iv ln, rv ca, rv tx, rv b_5, iv 1] [(.int 0), (.int 0)]))
              refine go_st (fun t k => XS.icmpNo X71.here hx rfl (hb hby at_306) rfl (teq ((by decide) : (0 : Int32) = (0 : Int32))).2 k) ?_
              show Go _ _ _ _ (T71.setTop (mkF m 309 #[iv p0, iv p1, iv p2, iv p3, iv p4, iv p5, iv sel, rv kd, iv ln, rv ca, rv tx, rv b_5, iv 1] []))
              refine go_st (fun t k => XS.iconst X71.here hx rfl (hb hby at_309) k) ?_
              show Go _ _ _ _ (T71.setTop (mkF m 310 #[iv p0, iv p1, iv p2, iv p3, iv p4, iv p5, iv sel, rv kd, iv ln, rv ca, rv tx, rv b_5, iv 1] [(.int 1)]))
              refine go_st (fun t k => XS.goto X71.here hx rfl (pc0 := 310) (pc' := 314) rfl (hb hby at_310) (by decide) (by decide) k) ?_
              show Go _ _ _ _ (T71.setTop (mkF m 314 #[iv p0, iv p1, iv p2, iv p3, iv p4, iv p5, iv sel, rv kd, iv ln, rv ca, rv tx, rv b_5, iv 1] [(.int 1)]))
              refine go_st (fun t k => XS.istore X71.here hx rfl (hb hby at_314) rfl (l' := #[iv p0, iv p1, iv p2, iv p3, iv p4, iv p5, iv sel, rv kd, iv ln, rv ca, rv tx, rv b_5, iv 1]) rfl k) ?_
              show Go _ _ _ _ (T71.setTop (mkF m 316 #[iv p0, iv p1, iv p2, iv p3, iv p4, iv p5, iv sel, rv kd, iv ln, rv ca, rv tx, rv b_5, iv 1] []))
              refine go_st (fun t k => XS.iload X71.here hx rfl (hb hby at_316) rfl k) ?_
              show Go _ _ _ _ (T71.setTop (mkF m 318 #[iv p0, iv p1, iv p2, iv p3, iv p4, iv p5, iv sel, rv kd, iv ln, rv ca, rv tx, rv b_5, iv 1] [(.int 1)]))
              subst hPP
              have ke73 : Keep h0 h3 [] := (Keep.ext (Keep.refl h0 []) E3)
              have ke74 : Keep h0 h5 [] := (Keep.trans ke73 K5 all0)
              have ke75 : Keep h0 h50 [] := (Keep.trans ke74 K50 all0)
              have ke76 : Keep h0 h65 [] := (Keep.ext ke75 E65)
              obtain ⟨fs, hr, hrun, hended, hR⟩ := X71.leaveW hS65 (by rw [e71]; exact (Nat.le_trans hk65 (Nat.le_refl _))) (v := some (.int 1)) (fun h => by rw [Bd.returns] at h; cases h)
              refine ⟨_, _, ?_, hrun, hended, _, _, rfl, ?_, ?_, hR.1, hR.2.1, hR.2.2.1, hR.2.2.2.mono (by decide) (by decide)⟩
              · exact retN X71 hx (t := .boolean) Bd.returns (by simp) (hb hby at_318) hr
              · show Q_law _ _ _ _ _ _ _ _ _ _ _ _ _ _ _ _ _ _ _ _ _ T71.heap _
                rw [e71]
                exact ⟨rfl, N71, ke76⟩
              · show CHr Z consts_1 s.vm s.heap T71.vm T71.heap
                rw [hh, e71]
                exact CHr.trans C66 (CHv.at X71 hZ65 (hEL hw) C66.1)
        · skip
          obtain ⟨_, _, ⟨T77, L77, kk77, nn77⟩, -, X77, ⟨Lc77, hQ77, lq77, yq77, zq77⟩, st77⟩ := Jvm.LawKit.callS X48 hx (y := (⟨"com/example/nudge/nudge/tree/Node", "isTrue", "(Lcom/example/nudge/nudge/tree/Node;)Z"⟩ : MethodName)) hown3 (mvT hZ3 (w104 hw)) (mvT hZ3 (w105 hw)) (mvT hZ3 (w39 hw)) (mvT hZ3 (w106 hw)) (by decide) (backOf (W := 0) (rm_isT0 l Z a0 hw [] b_5 kd gB h5 n0 (Nat.le_trans Z0 sz7) p5_1 p5_2 GSB (fun q => hs2 (hkB.mpr q)) oe12) hZ3 (w106 hw) (w39 hw) (by decide) (by decide)) (g := (mkF m 282 #[iv p0, iv p1, iv p2, iv p3, iv p4, iv p5, iv sel, rv kd, iv ln, rv ca, rv tx, rv b_5, iv 1] [(.ref b_5)])) rfl (by rw [hml]; rfl) (argsL := [(.ref b_5)]) (rest := []) (lenOf pd_11 rfl) rfl (by show 2 * 0 + _ ≤ _; exact Nat.le_of_eq rfl) (hb hby at_282) (fun _ _ => ⟨rfl, e48, (by decide : 7 + 0 ≤ _), (by decide : 22 + 0 ≤ _)⟩)
          dsimp only [Pt.U, Pt.locs, Pt.cells, Pt.slots] at X77 lq77 yq77 zq77 st77 hQ77
          subst lq77 yq77 zq77
          obtain ⟨h77, e77⟩ : ∃ z, T77.heap = z := ⟨_, rfl⟩
          rw [e77] at hQ77
          obtain ⟨rfl, N77q, he77⟩ := hQ77
          have N77 := Fr.app N48 N77q
          rw [he77] at e77
          refine go_st st77 ?_
          show Go _ _ _ _ (T77.setTop (mkF m 285 #[iv p0, iv p1, iv p2, iv p3, iv p4, iv p5, iv sel, rv kd, iv ln, rv ca, rv tx, rv b_5, iv 1] [(.int 0)]))
          refine go_st (fun t k => XS.iload X77.here hx rfl (hb hby at_285) rfl k) ?_
          show Go _ _ _ _ (T77.setTop (mkF m 287 #[iv p0, iv p1, iv p2, iv p3, iv p4, iv p5, iv sel, rv kd, iv ln, rv ca, rv tx, rv b_5, iv 1] [(.int sel), (.int 0)]))
          refine go_st (fun t k => XS.iconst X77.here hx rfl (hb hby at_287) k) ?_
          show Go _ _ _ _ (T77.setTop (mkF m 288 #[iv p0, iv p1, iv p2, iv p3, iv p4, iv p5, iv sel, rv kd, iv ln, rv ca, rv tx, rv b_5, iv 1] [(.int 2), (.int sel), (.int 0)]))
          refine go_st (fun t k => XS.icmpYes X77.here hx rfl (pc0 := 288) (pc' := 305) rfl (hb hby at_288) rfl (feq (hs2 : ¬ (sel = (2 : Int32)))).2 (by decide) (by decide) k) ?_
          show Go _ _ _ _ (T77.setTop (mkF m 305 #[iv p0, iv p1, iv p2, iv p3, iv p4, iv p5, iv sel, rv kd, iv ln, rv ca, rv tx, rv b_5, iv 1] [(.int 0)]))
          refine go_st (fun t k => XS.iconst X77.here hx rfl (hb hby at_305) k) ?_
          show Go _ _ _ _ (T77.setTop (mkF m 306 #[iv p0, iv p1, iv p2, iv p3, iv p4, iv p5, iv sel, rv kd, iv ln, rv ca, rv tx, rv b_5, iv 1] [(.int 0), (.int 0)]))
          refine go_st (fun t k => XS.icmpNo X77.here hx rfl (hb hby at_306) rfl (teq ((by decide) : (0 : Int32) = (0 : Int32))).2 k) ?_
          show Go _ _ _ _ (T77.setTop (mkF m 309 #[iv p0, iv p1, iv p2, iv p3, iv p4, iv p5, iv sel, rv kd, iv ln, rv ca, rv tx, rv b_5, iv 1] []))
          refine go_st (fun t k => XS.iconst X77.here hx rfl (hb hby at_309) k) ?_
          show Go _ _ _ _ (T77.setTop (mkF m 310 #[iv p0, iv p1, iv p2, iv p3, iv p4, iv p5, iv sel, rv kd, iv ln, rv ca, rv tx, rv b_5, iv 1] [(.int 1)]))
          refine go_st (fun t k => XS.goto X77.here hx rfl (pc0 := 310) (pc' := 314) rfl (hb hby at_310) (by decide) (by decide) k) ?_
          show Go _ _ _ _ (T77.setTop (mkF m 314 #[iv p0, iv p1, iv p2, iv p3, iv p4, iv p5, iv sel, rv kd, iv ln, rv ca, rv tx, rv b_5, iv 1] [(.int 1)]))
          refine go_st (fun t k => XS.istore X77.here hx rfl (hb hby at_314) rfl (l' := #[iv p0, iv p1, iv p2, iv p3, iv p4, iv p5, iv sel, rv kd, iv ln, rv ca, rv tx, rv b_5, iv 1]) rfl k) ?_
          show Go _ _ _ _ (T77.setTop (mkF m 316 #[iv p0, iv p1, iv p2, iv p3, iv p4, iv p5, iv sel, rv kd, iv ln, rv ca, rv tx, rv b_5, iv 1] []))
          refine go_st (fun t k => XS.iload X77.here hx rfl (hb hby at_316) rfl k) ?_
          show Go _ _ _ _ (T77.setTop (mkF m 318 #[iv p0, iv p1, iv p2, iv p3, iv p4, iv p5, iv sel, rv kd, iv ln, rv ca, rv tx, rv b_5, iv 1] [(.int 1)]))
          subst hPP
          have ke78 : Keep h0 h3 [] := (Keep.ext (Keep.refl h0 []) E3)
          have ke79 : Keep h0 h5 [] := (Keep.trans ke78 K5 all0)
          obtain ⟨fs, hr, hrun, hended, hR⟩ := X77.leaveW hS3 (by rw [e77]; exact (Nat.le_trans hk3 K5.1)) (v := some (.int 1)) (fun h => by rw [Bd.returns] at h; cases h)
          refine ⟨_, _, ?_, hrun, hended, _, _, rfl, ?_, ?_, hR.1, hR.2.1, hR.2.2.1, hR.2.2.2.mono (by decide) (by decide)⟩
          · exact retN X77 hx (t := .boolean) Bd.returns (by simp) (hb hby at_318) hr
          · show Q_law _ _ _ _ _ _ _ _ _ _ _ _ _ _ _ _ _ _ _ _ _ T77.heap _
            rw [e77]
            exact ⟨rfl, N77, ke79⟩
          · show CHr Z consts_1 s.vm s.heap T77.vm T77.heap
            rw [hh, e77]
            exact CHr.trans C6 (CHv.at X77 hZ3 (hEL hw) C6.1)
    rcases hr5 with rfl | rfl | rfl | rfl | rfl
    · skip
      show Go _ _ _ _ (T2.setTop (mkF m 61 #[iv p0, iv p1, iv p2, iv p3, iv p4, iv p5, iv sel, rv kd, iv 0, .unset, .unset, .unset, .unset] []))
      refine go_st (fun t k => XS.iload X2.here hx rfl (hb hby at_61) rfl k) ?_
      show Go _ _ _ _ (T2.setTop (mkF m 63 #[iv p0, iv p1, iv p2, iv p3, iv p4, iv p5, iv sel, rv kd, iv 0, .unset, .unset, .unset, .unset] [(.int 0)]))
      obtain ⟨T80, h80, kc80, X80, e80, E80, A80, st80⟩ := newP X2 hx hZ (aty := .char) (w7 hw) e2 (g := (mkF m 63 #[iv p0, iv p1, iv p2, iv p3, iv p4, iv p5, iv sel, rv kd, iv 0, .unset, .unset, .unset, .unset] [(.int 0)])) rfl (hb hby at_63) rfl (by decide) (cap := 0) (by decide) (by decide) (by decide) (by decide)
      obtain ⟨b80, gq80⟩ : ∃ z, z = h0.size := ⟨_, rfl⟩
      rw [← gq80] at A80 st80
      have C81 : CHr Z consts_1 s.vm h0 s.vm h80 := CHr.trans C0 (CHr.ext E80 C0.1)
      have f82 : Arv Z h80 b80 kc80 .char (0 : Int32) [] (.int 0) := (Arv.new A80 (by decide)).pad (pad_rep [] (.int 0) 0)
      refine go_st (fun t k => st80 t k) ?_
      show Go _ _ _ _ (T80.setTop (mkF m 65 #[iv p0, iv p1, iv p2, iv p3, iv p4, iv p5, iv sel, rv kd, iv 0, .unset, .unset, .unset, .unset] [(.ref b80)]))
      refine go_st (fun t k => XS.astore X80.here hx rfl (hb hby at_65) rfl rfl (l' := #[iv p0, iv p1, iv p2, iv p3, iv p4, iv p5, iv sel, rv kd, iv 0, rv b80, .unset, .unset, .unset]) rfl k) ?_
      show Go _ _ _ _ (T80.setTop (mkF m 67 #[iv p0, iv p1, iv p2, iv p3, iv p4, iv p5, iv sel, rv kd, iv 0, rv b80, .unset, .unset, .unset] []))
      refine go_st (fun t k => XS.iload X80.here hx rfl (hb hby at_67) rfl k) ?_
      show Go _ _ _ _ (T80.setTop (mkF m 69 #[iv p0, iv p1, iv p2, iv p3, iv p4, iv p5, iv sel, rv kd, iv 0, rv b80, .unset, .unset, .unset] [(.int 0)]))
      refine go_st (fun t k => XS.ifYes X80.here hx rfl (pc0 := 69) (pc' := 82) rfl (hb hby at_69) rfl ((if0 _ _).trans (flt ((by decide) : ¬ ((0 : Int32) < (0 : Int32)))).2.2.2) (by decide) (by decide) k) ?_
      show Go _ _ _ _ (T80.setTop (mkF m 82 #[iv p0, iv p1, iv p2, iv p3, iv p4, iv p5, iv sel, rv kd, iv 0, rv b80, .unset, .unset, .unset] []))
      refine go_st (fun t k => XS.iload X80.here hx rfl (hb hby at_82) rfl k) ?_
      show Go _ _ _ _ (T80.setTop (mkF m 84 #[iv p0, iv p1, iv p2, iv p3, iv p4, iv p5, iv sel, rv kd, iv 0, rv b80, .unset, .unset, .unset] [(.int 0)]))
      refine go_st (fun t k => XS.iconst X80.here hx rfl (hb hby at_84) k) ?_
      show Go _ _ _ _ (T80.setTop (mkF m 85 #[iv p0, iv p1, iv p2, iv p3, iv p4, iv p5, iv sel, rv kd, iv 0, rv b80, .unset, .unset, .unset] [(.int 1), (.int 0)]))
      refine go_st (fun t k => XS.icmpYes X80.here hx rfl (pc0 := 85) (pc' := 98) rfl (hb hby at_85) rfl (flt ((by decide) : ¬ ((1 : Int32) < (0 : Int32)))).2.2.2 (by decide) (by decide) k) ?_
      show Go _ _ _ _ (T80.setTop (mkF m 98 #[iv p0, iv p1, iv p2, iv p3, iv p4, iv p5, iv sel, rv kd, iv 0, rv b80, .unset, .unset, .unset] []))
      refine go_st (fun t k => XS.iload X80.here hx rfl (hb hby at_98) rfl k) ?_
      show Go _ _ _ _ (T80.setTop (mkF m 100 #[iv p0, iv p1, iv p2, iv p3, iv p4, iv p5, iv sel, rv kd, iv 0, rv b80, .unset, .unset, .unset] [(.int 0)]))
      refine go_st (fun t k => XS.iconst X80.here hx rfl (hb hby at_100) k) ?_
      show Go _ _ _ _ (T80.setTop (mkF m 101 #[iv p0, iv p1, iv p2, iv p3, iv p4, iv p5, iv sel, rv kd, iv 0, rv b80, .unset, .unset, .unset] [(.int 2), (.int 0)]))
      refine go_st (fun t k => XS.icmpYes X80.here hx rfl (pc0 := 101) (pc' := 115) rfl (hb hby at_101) rfl (flt ((by decide) : ¬ ((2 : Int32) < (0 : Int32)))).2.2.2 (by decide) (by decide) k) ?_
      show Go _ _ _ _ (T80.setTop (mkF m 115 #[iv p0, iv p1, iv p2, iv p3, iv p4, iv p5, iv sel, rv kd, iv 0, rv b80, .unset, .unset, .unset] []))
      refine go_st (fun t k => XS.iload X80.here hx rfl (hb hby at_115) rfl k) ?_
      show Go _ _ _ _ (T80.setTop (mkF m 117 #[iv p0, iv p1, iv p2, iv p3, iv p4, iv p5, iv sel, rv kd, iv 0, rv b80, .unset, .unset, .unset] [(.int 0)]))
      refine go_st (fun t k => XS.iconst X80.here hx rfl (hb hby at_117) k) ?_
      show Go _ _ _ _ (T80.setTop (mkF m 118 #[iv p0, iv p1, iv p2, iv p3, iv p4, iv p5, iv sel, rv kd, iv 0, rv b80, .unset, .unset, .unset] [(.int 3), (.int 0)]))
      refine go_st (fun t k => XS.icmpYes X80.here hx rfl (pc0 := 118) (pc' := 132) rfl (hb hby at_118) rfl (flt ((by decide) : ¬ ((3 : Int32) < (0 : Int32)))).2.2.2 (by decide) (by decide) k) ?_
      show Go _ _ _ _ (T80.setTop (mkF m 132 #[iv p0, iv p1, iv p2, iv p3, iv p4, iv p5, iv sel, rv kd, iv 0, rv b80, .unset, .unset, .unset] []))
      obtain ⟨T83, h83, X83, e83, E83, A83, D83, -, st83⟩ := newO X80 hx hZ hown (w8 hw) (w9 hw) (w10 hw) e80 (g := (mkF m 132 #[iv p0, iv p1, iv p2, iv p3, iv p4, iv p5, iv sel, rv kd, iv 0, rv b80, .unset, .unset, .unset] [])) rfl (hb hby at_132) (by decide) (by decide)
      obtain ⟨b83, gq83⟩ : ∃ z, z = h80.size := ⟨_, rfl⟩
      rw [← gq83] at A83 D83 st83
      have sn83 : Safe Z consts_1 s.vm h80 b83 := Safe.new (Nat.le_of_eq gq83.symm)
      have C84 : CHr Z consts_1 s.vm h0 s.vm h83 := CHr.trans C81 (CHr.ext E83 C81.1)
      have sf85 : Safe Z consts_1 s.vm h83 b83 := Safe.ext E83 C81.1 sn83
      have f86 : Fld Z h83 b83 "java/lang/String" "coder" "B" (.int 0) := D83 (Or.inr (w34 hw)) (ty := .byte) (by decide)
      have f87 : Fld Z h83 b83 "java/lang/String" "value" "[B" .null := D83 (Or.inr (w36 hw)) (ty := (.array .byte)) (by decide)
      refine go_st (fun t k => st83 t k) ?_
      show Go _ _ _ _ (T83.setTop (mkF m 135 #[iv p0, iv p1, iv p2, iv p3, iv p4, iv p5, iv sel, rv kd, iv 0, rv b80, .unset, .unset, .unset] [(.ref b83)]))
      refine go_st (fun t k => XS.dup X83.here hx rfl (hb hby at_135) rfl rfl k) ?_
      show Go _ _ _ _ (T83.setTop (mkF m 136 #[iv p0, iv p1, iv p2, iv p3, iv p4, iv p5, iv sel, rv kd, iv 0, rv b80, .unset, .unset, .unset] [(.ref b83), (.ref b83)]))
      refine go_st (fun t k => XS.aload X83.here hx rfl (hb hby at_136) rfl rfl k) ?_
      show Go _ _ _ _ (T83.setTop (mkF m 138 #[iv p0, iv p1, iv p2, iv p3, iv p4, iv p5, iv sel, rv kd, iv 0, rv b80, .unset, .unset, .unset] [(.ref b80), (.ref b83), (.ref b83)]))
      have f88 : Arv Z h83 b80 kc80 .char (0 : Int32) [] (.int 0) := (f82.ext E83)
      have g_b83 : n0 ≤ b83 := Nat.le_trans (Nat.le_trans Z0 E80.1) (Nat.le_of_eq gq83.symm)
      have nq89 : b80 ≠ b83 := Nat.ne_of_lt (Nat.lt_of_lt_of_le (Nat.lt_of_lt_of_le f82.lt (Nat.le_refl _)) (Nat.le_of_eq gq83.symm))
      have sz90 : h0.size ≤ h83.size := (Nat.le_trans E80.1 E83.1)
      obtain ⟨_, _, ⟨T91, L91, kk91, nn91⟩, -, X91, hs291, hg91, ⟨Lc91, hQ91, lq91, yq91, zq91, hC91⟩, st91⟩ := X83.specialBackS hx (y := (⟨"java/lang/String", "<init>", "([C)V"⟩ : MethodName)) rfl hown (mvT hZ (w11 hw)) (mvT hZ (w12 hw)) (mvT hZ (w13 hw)) (by decide) (backOfSH (vm0 := s.vm) (W := 1) (rm_strE1 l Z a0 hw [] b83 b80 kc80 h83 n0 (Nat.le_trans Z0 sz90) A83 f87 f86 f88 g_b83 (Ne.symm nq89)) hZ (w13 hw) (w10 hw) (by decide) (by decide) (hEL hw) C84.1) (g := (mkF m 138 #[iv p0, iv p1, iv p2, iv p3, iv p4, iv p5, iv sel, rv kd, iv 0, rv b80, .unset, .unset, .unset] [(.ref b80), (.ref b83), (.ref b83)])) rfl (by rw [hml]; rfl) (Steps.refl _) (a := b83) (argsL := [(.ref b80)]) (rest := [(.ref b83)]) (lenOf pd_12 rfl) rfl (by show 2 * 0 + _ ≤ _; exact Nat.le_of_eq rfl) (hb hby at_138) (fun _ _ => ⟨rfl, e83, (by decide : 2 + 4 ≤ _), (by decide : 4 + 8 ≤ _)⟩)
      dsimp only [Pt.U, Pt.locs, Pt.cells, Pt.slots] at X91 hs291 hg91 lq91 yq91 zq91 st91 hQ91 hC91
      subst lq91 yq91 zq91
      rw [e83] at hg91
      obtain ⟨X91, hS91, hZ91, hown91⟩ := rebS (vm0 := s.vm) hS0 (Nat.le_trans hk0 sz90) X91 hs291 hg91 hZ hown
      obtain ⟨h91, e91⟩ : ∃ z, T91.heap = z := ⟨_, rfl⟩
      rw [e91] at hQ91 hg91 hC91 hS91
      obtain ⟨t_91, kb_91, rfl, N91q, K91, p91_0, p91_1, p91_2, p91_3⟩ := hQ91
      have N91 := Fr.app N2 N91q
      have C92 : CHr Z consts_1 s.vm h0 T91.vm h91 := CHr.trans C84 hC91
      have sf93 : Safe Z consts_1 T91.vm h91 b83 := (CHr.safe hC91 A83.lt sf85)
      refine go_tr st91 ?_
      show Go _ _ _ _ (T91.setTop (mkF m 141 #[iv p0, iv p1, iv p2, iv p3, iv p4, iv p5, iv sel, rv kd, iv 0, rv b80, .unset, .unset, .unset] [(.ref b83)]))
      have s0 : Str Z h91 b83 t_91 [] := Str.of (n := 0) p91_0 p91_1 p91_2 p91_3 rfl (by decide) chars_nil
      refine go_st (fun t k => XS.astore X91.here hx rfl (hb hby at_141) rfl rfl (l' := #[iv p0, iv p1, iv p2, iv p3, iv p4, iv p5, iv sel, rv kd, iv 0, rv b80, rv b83, .unset, .unset]) rfl k) ?_
      show Go _ _ _ _ (T91.setTop (mkF m 143 #[iv p0, iv p1, iv p2, iv p3, iv p4, iv p5, iv sel, rv kd, iv 0, rv b80, rv b83, .unset, .unset] []))
      have xe94 : Ext h0 h80 := (ext_tr (ext_rfl h0) E80)
      have xe95 : Ext h0 h83 := (ext_tr xe94 E83)
      have xe96 : Ext h0 h91 := (ext_keep xe95 K91 (allS (Nat.le_trans E80.1 (Nat.le_of_eq gq83.symm)) all0))
      exact j3 _ _ _ _ _ (0 : Int32) b80 b83 t_91 [] (X91.mono (by decide) (by decide)) N91 e91 xe96 hS91 (Nat.le_trans (Nat.le_refl _) (Nat.le_refl _)) hZ91 hown91 C92 s0
    · skip
      show Go _ _ _ _ (T2.setTop (mkF m 61 #[iv p0, iv p1, iv p2, iv p3, iv p4, iv p5, iv sel, rv kd, iv 1, .unset, .unset, .unset, .unset] []))
      refine go_st (fun t k => XS.iload X2.here hx rfl (hb hby at_61) rfl k) ?_
      show Go _ _ _ _ (T2.setTop (mkF m 63 #[iv p0, iv p1, iv p2, iv p3, iv p4, iv p5, iv sel, rv kd, iv 1, .unset, .unset, .unset, .unset] [(.int 1)]))
      obtain ⟨T97, h97, kc97, X97, e97, E97, A97, st97⟩ := newP X2 hx hZ (aty := .char) (w7 hw) e2 (g := (mkF m 63 #[iv p0, iv p1, iv p2, iv p3, iv p4, iv p5, iv sel, rv kd, iv 1, .unset, .unset, .unset, .unset] [(.int 1)])) rfl (hb hby at_63) rfl (by decide) (cap := 1) (by decide) (by decide) (by decide) (by decide)
      obtain ⟨b97, gq97⟩ : ∃ z, z = h0.size := ⟨_, rfl⟩
      rw [← gq97] at A97 st97
      have C98 : CHr Z consts_1 s.vm h0 s.vm h97 := CHr.trans C0 (CHr.ext E97 C0.1)
      have f99 : Arv Z h97 b97 kc97 .char (1 : Int32) [(.int 0)] (.int 0) := (Arv.new A97 (by decide)).pad (pad_rep [] (.int 0) 1)
      refine go_st (fun t k => st97 t k) ?_
      show Go _ _ _ _ (T97.setTop (mkF m 65 #[iv p0, iv p1, iv p2, iv p3, iv p4, iv p5, iv sel, rv kd, iv 1, .unset, .unset, .unset, .unset] [(.ref b97)]))
      refine go_st (fun t k => XS.astore X97.here hx rfl (hb hby at_65) rfl rfl (l' := #[iv p0, iv p1, iv p2, iv p3, iv p4, iv p5, iv sel, rv kd, iv 1, rv b97, .unset, .unset, .unset]) rfl k) ?_
      show Go _ _ _ _ (T97.setTop (mkF m 67 #[iv p0, iv p1, iv p2, iv p3, iv p4, iv p5, iv sel, rv kd, iv 1, rv b97, .unset, .unset, .unset] []))
      refine go_st (fun t k => XS.iload X97.here hx rfl (hb hby at_67) rfl k) ?_
      show Go _ _ _ _ (T97.setTop (mkF m 69 #[iv p0, iv p1, iv p2, iv p3, iv p4, iv p5, iv sel, rv kd, iv 1, rv b97, .unset, .unset, .unset] [(.int 1)]))
      refine go_st (fun t k => XS.ifNo X97.here hx rfl (hb hby at_69) rfl ((if0 _ _).trans (tlt ((by decide) : (0 : Int32) < (1 : Int32))).2.2.2) k) ?_
      show Go _ _ _ _ (T97.setTop (mkF m 72 #[iv p0, iv p1, iv p2, iv p3, iv p4, iv p5, iv sel, rv kd, iv 1, rv b97, .unset, .unset, .unset] []))
      refine go_st (fun t k => XS.aload X97.here hx rfl (hb hby at_72) rfl rfl k) ?_
      show Go _ _ _ _ (T97.setTop (mkF m 74 #[iv p0, iv p1, iv p2, iv p3, iv p4, iv p5, iv sel, rv kd, iv 1, rv b97, .unset, .unset, .unset] [(.ref b97)]))
      refine go_st (fun t k => XS.iconst X97.here hx rfl (hb hby at_74) k) ?_
      show Go _ _ _ _ (T97.setTop (mkF m 75 #[iv p0, iv p1, iv p2, iv p3, iv p4, iv p5, iv sel, rv kd, iv 1, rv b97, .unset, .unset, .unset] [(.int 0), (.ref b97)]))
      refine go_st (fun t k => XS.iloadN X97.here hx rfl (hb hby at_75) rfl k) ?_
      show Go _ _ _ _ (T97.setTop (mkF m 76 #[iv p0, iv p1, iv p2, iv p3, iv p4, iv p5, iv sel, rv kd, iv 1, rv b97, .unset, .unset, .unset] [(.int p2), (.int 0), (.ref b97)]))
      refine go_st (fun t k => XS.sipush X97.here hx rfl (hb hby at_76) k) ?_
      show Go _ _ _ _ (T97.setTop (mkF m 79 #[iv p0, iv p1, iv p2, iv p3, iv p4, iv p5, iv sel, rv kd, iv 1, rv b97, .unset, .unset, .unset] [(.int 255), (.int p2), (.int 0), (.ref b97)]))
      refine go_st (fun t k => XS.iand X97.here hx rfl (hb hby at_79) rfl k) ?_
      show Go _ _ _ _ (T97.setTop (mkF m 80 #[iv p0, iv p1, iv p2, iv p3, iv p4, iv p5, iv sel, rv kd, iv 1, rv b97, .unset, .unset, .unset] [(.int (p2 &&& (255 : Int32))), (.int 0), (.ref b97)]))
      refine go_st (fun t k => XS.i2c X97.here hx rfl (hb hby at_80) rfl k) ?_
      show Go _ _ _ _ (T97.setTop (mkF m 81 #[iv p0, iv p1, iv p2, iv p3, iv p4, iv p5, iv sel, rv kd, iv 1, rv b97, .unset, .unset, .unset] [(.int (((p2 &&& (255 : Int32))).toUInt32.toUInt16.toUInt32.toInt32)), (.int 0), (.ref b97)]))
      obtain ⟨zc100, zA100, zq100, zS100, zN100, zH100, zG100⟩ := id f99
      have hin100 : ¬ ((0 : Int32) < 0 ∨ zc100.slots.size ≤ ((0 : Int32)).toNatClampNeg) := inb_of zS100 ⟨by decide, by decide⟩
      obtain ⟨T100, h100, X100, e100, W100, st100⟩ := stC X97 hx hZ e97 zA100 (j := (0 : Int32)) hin100 (g := (mkF m 81 #[iv p0, iv p1, iv p2, iv p3, iv p4, iv p5, iv sel, rv kd, iv 1, rv b97, .unset, .unset, .unset] [(.int (((p2 &&& (255 : Int32))).toUInt32.toUInt16.toUInt32.toInt32)), (.int 0), (.ref b97)])) rfl rfl (hb hby at_81)
      have g_b97 : n0 ≤ b97 := Nat.le_trans (Nat.le_trans Z0 (Nat.le_refl _)) (Nat.le_of_eq gq97.symm)
      have N100 := Fr.snoc X100 N2 g_b97
      have C101 : CHr Z consts_1 s.vm h0 s.vm h100 := CHr.trans C98 (CHr.wr W100 (Safe.arv hZ.alike f99 (by decide)) C98.1)
      have f102 : Arv Z h100 b97 kc97 .char (1 : Int32) [(.int (nar .char (((p2 &&& (255 : Int32))).toUInt32.toUInt16.toUInt32.toInt32)))] (.int 0) := Arv.set zA100 zq100 zS100 zN100 zH100 zG100 (fits_nar_char _) W100 0 rfl (Nat.le_of_ble_eq_true rfl)
      refine go_st (fun t k => st100 t k) ?_
      show Go _ _ _ _ (T100.setTop (mkF m 82 #[iv p0, iv p1, iv p2, iv p3, iv p4, iv p5, iv sel, rv kd, iv 1, rv b97, .unset, .unset, .unset] []))
      refine go_st (fun t k => XS.iload X100.here hx rfl (hb hby at_82) rfl k) ?_
      show Go _ _ _ _ (T100.setTop (mkF m 84 #[iv p0, iv p1, iv p2, iv p3, iv p4, iv p5, iv sel, rv kd, iv 1, rv b97, .unset, .unset, .unset] [(.int 1)]))
      refine go_st (fun t k => XS.iconst X100.here hx rfl (hb hby at_84) k) ?_
      show Go _ _ _ _ (T100.setTop (mkF m 85 #[iv p0, iv p1, iv p2, iv p3, iv p4, iv p5, iv sel, rv kd, iv 1, rv b97, .unset, .unset, .unset] [(.int 1), (.int 1)]))
      refine go_st (fun t k => XS.icmpYes X100.here hx rfl (pc0 := 85) (pc' := 98) rfl (hb hby at_85) rfl (flt ((by decide) : ¬ ((1 : Int32) < (1 : Int32)))).2.2.2 (by decide) (by decide) k) ?_
      show Go _ _ _ _ (T100.setTop (mkF m 98 #[iv p0, iv p1, iv p2, iv p3, iv p4, iv p5, iv sel, rv kd, iv 1, rv b97, .unset, .unset, .unset] []))
      refine go_st (fun t k => XS.iload X100.here hx rfl (hb hby at_98) rfl k) ?_
      show Go _ _ _ _ (T100.setTop (mkF m 100 #[iv p0, iv p1, iv p2, iv p3, iv p4, iv p5, iv sel, rv kd, iv 1, rv b97, .unset, .unset, .unset] [(.int 1)]))
      refine go_st (fun t k => XS.iconst X100.here hx rfl (hb hby at_100) k) ?_
      show Go _ _ _ _ (T100.setTop (mkF m 101 #[iv p0, iv p1, iv p2, iv p3, iv p4, iv p5, iv sel, rv kd, iv 1, rv b97, .unset, .unset, .unset] [(.int 2), (.int 1)]))
      refine go_st (fun t k => XS.icmpYes X100.here hx rfl (pc0 := 101) (pc' := 115) rfl (hb hby at_101) rfl (flt ((by decide) : ¬ ((2 : Int32) < (1 : Int32)))).2.2.2 (by decide) (by decide) k) ?_
      show Go _ _ _ _ (T100.setTop (mkF m 115 #[iv p0, iv p1, iv p2, iv p3, iv p4, iv p5, iv sel, rv kd, iv 1, rv b97, .unset, .unset, .unset] []))
      refine go_st (fun t k => XS.iload X100.here hx rfl (hb hby at_115) rfl k) ?_
      show Go _ _ _ _ (T100.setTop (mkF m 117 #[iv p0, iv p1, iv p2, iv p3, iv p4, iv p5, iv sel, rv kd, iv 1, rv b97, .unset, .unset, .unset] [(.int 1)]))
      refine go_st (fun t k => XS.iconst X100.here hx rfl (hb hby at_117) k) ?_
      show Go _ _ _ _ (T100.setTop (mkF m 118 #[iv p0, iv p1, iv p2, iv p3, iv p4, iv p5, iv sel, rv kd, iv 1, rv b97, .unset, .unset, .unset] [(.int 3), (.int 1)]))
      refine go_st (fun t k => XS.icmpYes X100.here hx rfl (pc0 := 118) (pc' := 132) rfl (hb hby at_118) rfl (flt ((by decide) : ¬ ((3 : Int32) < (1 : Int32)))).2.2.2 (by decide) (by decide) k) ?_
      show Go _ _ _ _ (T100.setTop (mkF m 132 #[iv p0, iv p1, iv p2, iv p3, iv p4, iv p5, iv sel, rv kd, iv 1, rv b97, .unset, .unset, .unset] []))
      obtain ⟨T103, h103, X103, e103, E103, A103, D103, -, st103⟩ := newO X100 hx hZ hown (w8 hw) (w9 hw) (w10 hw) e100 (g := (mkF m 132 #[iv p0, iv p1, iv p2, iv p3, iv p4, iv p5, iv sel, rv kd, iv 1, rv b97, .unset, .unset, .unset] [])) rfl (hb hby at_132) (by decide) (by decide)
      obtain ⟨b103, gq103⟩ : ∃ z, z = h100.size := ⟨_, rfl⟩
      rw [← gq103] at A103 D103 st103
      have sn103 : Safe Z consts_1 s.vm h100 b103 := Safe.new (Nat.le_of_eq gq103.symm)
      have C104 : CHr Z consts_1 s.vm h0 s.vm h103 := CHr.trans C101 (CHr.ext E103 C101.1)
      have sf105 : Safe Z consts_1 s.vm h103 b103 := Safe.ext E103 C101.1 sn103
      have f106 : Fld Z h103 b103 "java/lang/String" "coder" "B" (.int 0) := D103 (Or.inr (w34 hw)) (ty := .byte) (by decide)
      have f107 : Fld Z h103 b103 "java/lang/String" "value" "[B" .null := D103 (Or.inr (w36 hw)) (ty := (.array .byte)) (by decide)
      refine go_st (fun t k => st103 t k) ?_
      show Go _ _ _ _ (T103.setTop (mkF m 135 #[iv p0, iv p1, iv p2, iv p3, iv p4, iv p5, iv sel, rv kd, iv 1, rv b97, .unset, .unset, .unset] [(.ref b103)]))
      refine go_st (fun t k => XS.dup X103.here hx rfl (hb hby at_135) rfl rfl k) ?_
      show Go _ _ _ _ (T103.setTop (mkF m 136 #[iv p0, iv p1, iv p2, iv p3, iv p4, iv p5, iv sel, rv kd, iv 1, rv b97, .unset, .unset, .unset] [(.ref b103), (.ref b103)]))
      refine go_st (fun t k => XS.aload X103.here hx rfl (hb hby at_136) rfl rfl k) ?_
      show Go _ _ _ _ (T103.setTop (mkF m 138 #[iv p0, iv p1, iv p2, iv p3, iv p4, iv p5, iv sel, rv kd, iv 1, rv b97, .unset, .unset, .unset] [(.ref b97), (.ref b103), (.ref b103)]))
      have f108 : Arv Z h103 b97 kc97 .char (1 : Int32) [(.int (nar .char (((p2 &&& (255 : Int32))).toUInt32.toUInt16.toUInt32.toInt32)))] (.int 0) := (f102.ext E103)
      have oe109 : Old Z n0 h97 := (Old.ext O0 E97)
      have oe110 : Old Z n0 h100 := (Old.wr oe109 W100 g_b97)
      have oe111 : Old Z n0 h103 := (Old.ext oe110 E103)
      have sz112 : h0.size ≤ h100.size := (Nat.le_trans E97.1 (Nat.le_of_eq W100.size.symm))
      have g_b103 : n0 ≤ b103 := Nat.le_trans (Nat.le_trans Z0 sz112) (Nat.le_of_eq gq103.symm)
      have sz113 : h0.size ≤ h103.size := (Nat.le_trans sz112 E103.1)
      obtain ⟨_, _, ⟨T114, L114, kk114, nn114⟩, -, X114, ⟨Lc114, hQ114, lq114, yq114, zq114⟩, st114⟩ := X103.specialBack hx (y := (⟨"java/lang/String", "<init>", "([C)V"⟩ : MethodName)) rfl hown (mvT hZ (w11 hw)) (mvT hZ (w12 hw)) (mvT hZ (w13 hw)) (by decide) (StrChars.Road.backV (W := 1) hZ (words_in str_words hw) (kI := 4) (w9 hw) (cs := ([(nar .char (((p2 &&& (255 : Int32))).toUInt32.toUInt16.toUInt32.toInt32))] : List Int32)) (bs := ([(nar .char (((p2 &&& (255 : Int32))).toUInt32.toUInt16.toUInt32.toInt32))] : List Int32).map (fun c => c.toInt8.toInt32)) (n := 1) g_b103 (Nat.le_trans Z0 sz113) A103 f107 f106 f108 (Sta.ext oe111.2 CS) CSn rfl rfl (by decide) (by decide) (chars_cons (and255_chars _) chars_nil) rfl (by decide) (by decide)) (g := (mkF m 138 #[iv p0, iv p1, iv p2, iv p3, iv p4, iv p5, iv sel, rv kd, iv 1, rv b97, .unset, .unset, .unset] [(.ref b97), (.ref b103), (.ref b103)])) rfl (by rw [hml]; rfl) (Steps.refl _) (a := b103) (argsL := [(.ref b97)]) (rest := [(.ref b103)]) (lenOf pd_12 rfl) rfl (by show 2 * 0 + _ ≤ _; exact Nat.le_of_eq rfl) (hb hby at_138) (fun _ _ => ⟨rfl, e103, (by decide : 2 + 1 ≤ _), (by decide : 5 + 1 ≤ _)⟩)
      dsimp only [Pt.U, Pt.locs, Pt.cells, Pt.slots] at X114 lq114 yq114 zq114 st114 hQ114
      subst lq114 yq114 zq114
      obtain ⟨h114, e114⟩ : ∃ z, T114.heap = z := ⟨_, rfl⟩
      rw [e114] at hQ114
      obtain ⟨rfl, N114q, K114, Es114, Cs114, t114, kb114, gt114, lt114, nt114, Vs114, As114⟩ := hQ114
      have N114 := Fr.app N100 N114q
      have C115 : CHr Z consts_1 s.vm h0 s.vm h114 := CHr.trans C104 (CHr.keep K114 (sfS sf105 sf0) C104.1)
      have sf116 : Safe Z consts_1 s.vm h114 b103 := (Safe.keep K114 (sfS sf105 sf0) C104.1 sf105)
      refine go_tr st114 ?_
      show Go _ _ _ _ (T114.setTop (mkF m 141 #[iv p0, iv p1, iv p2, iv p3, iv p4, iv p5, iv sel, rv kd, iv 1, rv b97, .unset, .unset, .unset] [(.ref b103)]))
      have sS117 : Str Z h114 b103 t114 ([(nar .char (((p2 &&& (255 : Int32))).toUInt32.toUInt16.toUInt32.toInt32))] : List Int32) := Str.of (n := 1) Es114 Vs114 Cs114 As114 rfl (by decide) (chars_cons (and255_chars _) chars_nil)
      refine go_st (fun t k => XS.astore X114.here hx rfl (hb hby at_141) rfl rfl (l' := #[iv p0, iv p1, iv p2, iv p3, iv p4, iv p5, iv sel, rv kd, iv 1, rv b97, rv b103, .unset, .unset]) rfl k) ?_
      show Go _ _ _ _ (T114.setTop (mkF m 143 #[iv p0, iv p1, iv p2, iv p3, iv p4, iv p5, iv sel, rv kd, iv 1, rv b97, rv b103, .unset, .unset] []))
      have xe118 : Ext h0 h97 := (ext_tr (ext_rfl h0) E97)
      have xe119 : Ext h0 h100 := (ext_wr xe118 W100 (Nat.le_of_eq gq97.symm))
      have xe120 : Ext h0 h103 := (ext_tr xe119 E103)
      have xe121 : Ext h0 h114 := (ext_keep xe120 K114 (allS (Nat.le_trans sz112 (Nat.le_of_eq gq103.symm)) all0))
      have sz122 : h0.size ≤ h114.size := (Nat.le_trans sz113 K114.1)
      exact j3 _ _ _ _ _ (1 : Int32) b97 b103 t114 ([(nar .char (((p2 &&& (255 : Int32))).toUInt32.toUInt16.toUInt32.toInt32))] : List Int32) (X114.mono (by decide) (by decide)) N114 e114 xe121 hS0 (Nat.le_trans hk0 sz122) hZ hown C115 sS117
    · skip
      show Go _ _ _ _ (T2.setTop (mkF m 61 #[iv p0, iv p1, iv p2, iv p3, iv p4, iv p5, iv sel, rv kd, iv 2, .unset, .unset, .unset, .unset] []))
      refine go_st (fun t k => XS.iload X2.here hx rfl (hb hby at_61) rfl k) ?_
      show Go _ _ _ _ (T2.setTop (mkF m 63 #[iv p0, iv p1, iv p2, iv p3, iv p4, iv p5, iv sel, rv kd, iv 2, .unset, .unset, .unset, .unset] [(.int 2)]))
      obtain ⟨T123, h123, kc123, X123, e123, E123, A123, st123⟩ := newP X2 hx hZ (aty := .char) (w7 hw) e2 (g := (mkF m 63 #[iv p0, iv p1, iv p2, iv p3, iv p4, iv p5, iv sel, rv kd, iv 2, .unset, .unset, .unset, .unset] [(.int 2)])) rfl (hb hby at_63) rfl (by decide) (cap := 2) (by decide) (by decide) (by decide) (by decide)
      obtain ⟨b123, gq123⟩ : ∃ z, z = h0.size := ⟨_, rfl⟩
      rw [← gq123] at A123 st123
      have C124 : CHr Z consts_1 s.vm h0 s.vm h123 := CHr.trans C0 (CHr.ext E123 C0.1)
      have f125 : Arv Z h123 b123 kc123 .char (2 : Int32) [(.int 0), (.int 0)] (.int 0) := (Arv.new A123 (by decide)).pad (pad_rep [] (.int 0) 2)
      refine go_st (fun t k => st123 t k) ?_
      show Go _ _ _ _ (T123.setTop (mkF m 65 #[iv p0, iv p1, iv p2, iv p3, iv p4, iv p5, iv sel, rv kd, iv 2, .unset, .unset, .unset, .unset] [(.ref b123)]))
      refine go_st (fun t k => XS.astore X123.here hx rfl (hb hby at_65) rfl rfl (l' := #[iv p0, iv p1, iv p2, iv p3, iv p4, iv p5, iv sel, rv kd, iv 2, rv b123, .unset, .unset, .unset]) rfl k) ?_
      show Go _ _ _ _ (T123.setTop (mkF m 67 #[iv p0, iv p1, iv p2, iv p3, iv p4, iv p5, iv sel, rv kd, iv 2, rv b123, .unset, .unset, .unset] []))
      refine go_st (fun t k => XS.iload X123.here hx rfl (hb hby at_67) rfl k) ?_
      show Go _ _ _ _ (T123.setTop (mkF m 69 #[iv p0, iv p1, iv p2, iv p3, iv p4, iv p5, iv sel, rv kd, iv 2, rv b123, .unset, .unset, .unset] [(.int 2)]))
      refine go_st (fun t k => XS.ifNo X123.here hx rfl (hb hby at_69) rfl ((if0 _ _).trans (tlt ((by decide) : (0 : Int32) < (2 : Int32))).2.2.2) k) ?_
      show Go _ _ _ _ (T123.setTop (mkF m 72 #[iv p0, iv p1, iv p2, iv p3, iv p4, iv p5, iv sel, rv kd, iv 2, rv b123, .unset, .unset, .unset] []))
      refine go_st (fun t k => XS.aload X123.here hx rfl (hb hby at_72) rfl rfl k) ?_
      show Go _ _ _ _ (T123.setTop (mkF m 74 #[iv p0, iv p1, iv p2, iv p3, iv p4, iv p5, iv sel, rv kd, iv 2, rv b123, .unset, .unset, .unset] [(.ref b123)]))
      refine go_st (fun t k => XS.iconst X123.here hx rfl (hb hby at_74) k) ?_
      show Go _ _ _ _ (T123.setTop (mkF m 75 #[iv p0, iv p1, iv p2, iv p3, iv p4, iv p5, iv sel, rv kd, iv 2, rv b123, .unset, .unset, .unset] [(.int 0), (.ref b123)]))
      refine go_st (fun t k => XS.iloadN X123.here hx rfl (hb hby at_75) rfl k) ?_
      show Go _ _ _ _ (T123.setTop (mkF m 76 #[iv p0, iv p1, iv p2, iv p3, iv p4, iv p5, iv sel, rv kd, iv 2, rv b123, .unset, .unset, .unset] [(.int p2), (.int 0), (.ref b123)]))
      refine go_st (fun t k => XS.sipush X123.here hx rfl (hb hby at_76) k) ?_
      show Go _ _ _ _ (T123.setTop (mkF m 79 #[iv p0, iv p1, iv p2, iv p3, iv p4, iv p5, iv sel, rv kd, iv 2, rv b123, .unset, .unset, .unset] [(.int 255), (.int p2), (.int 0), (.ref b123)]))
      refine go_st (fun t k => XS.iand X123.here hx rfl (hb hby at_79) rfl k) ?_
      show Go _ _ _ _ (T123.setTop (mkF m 80 #[iv p0, iv p1, iv p2, iv p3, iv p4, iv p5, iv sel, rv kd, iv 2, rv b123, .unset, .unset, .unset] [(.int (p2 &&& (255 : Int32))), (.int 0), (.ref b123)]))
      refine go_st (fun t k => XS.i2c X123.here hx rfl (hb hby at_80) rfl k) ?_
      show Go _ _ _ _ (T123.setTop (mkF m 81 #[iv p0, iv p1, iv p2, iv p3, iv p4, iv p5, iv sel, rv kd, iv 2, rv b123, .unset, .unset, .unset] [(.int (((p2 &&& (255 : Int32))).toUInt32.toUInt16.toUInt32.toInt32)), (.int 0), (.ref b123)]))
      obtain ⟨zc126, zA126, zq126, zS126, zN126, zH126, zG126⟩ := id f125
      have hin126 : ¬ ((0 : Int32) < 0 ∨ zc126.slots.size ≤ ((0 : Int32)).toNatClampNeg) := inb_of zS126 ⟨by decide, by decide⟩
      obtain ⟨T126, h126, X126, e126, W126, st126⟩ := stC X123 hx hZ e123 zA126 (j := (0 : Int32)) hin126 (g := (mkF m 81 #[iv p0, iv p1, iv p2, iv p3, iv p4, iv p5, iv sel, rv kd, iv 2, rv b123, .unset, .unset, .unset] [(.int (((p2 &&& (255 : Int32))).toUInt32.toUInt16.toUInt32.toInt32)), (.int 0), (.ref b123)])) rfl rfl (hb hby at_81)
      have g_b123 : n0 ≤ b123 := Nat.le_trans (Nat.le_trans Z0 (Nat.le_refl _)) (Nat.le_of_eq gq123.symm)
      have N126 := Fr.snoc X126 N2 g_b123
      have C127 : CHr Z consts_1 s.vm h0 s.vm h126 := CHr.trans C124 (CHr.wr W126 (Safe.arv hZ.alike f125 (by decide)) C124.1)
      have f128 : Arv Z h126 b123 kc123 .char (2 : Int32) [(.int (nar .char (((p2 &&& (255 : Int32))).toUInt32.toUInt16.toUInt32.toInt32))), (.int 0)] (.int 0) := Arv.set zA126 zq126 zS126 zN126 zH126 zG126 (fits_nar_char _) W126 0 rfl (Nat.le_of_ble_eq_true rfl)
      refine go_st (fun t k => st126 t k) ?_
      show Go _ _ _ _ (T126.setTop (mkF m 82 #[iv p0, iv p1, iv p2, iv p3, iv p4, iv p5, iv sel, rv kd, iv 2, rv b123, .unset, .unset, .unset] []))
      refine go_st (fun t k => XS.iload X126.here hx rfl (hb hby at_82) rfl k) ?_
      show Go _ _ _ _ (T126.setTop (mkF m 84 #[iv p0, iv p1, iv p2, iv p3, iv p4, iv p5, iv sel, rv kd, iv 2, rv b123, .unset, .unset, .unset] [(.int 2)]))
      refine go_st (fun t k => XS.iconst X126.here hx rfl (hb hby at_84) k) ?_
      show Go _ _ _ _ (T126.setTop (mkF m 85 #[iv p0, iv p1, iv p2, iv p3, iv p4, iv p5, iv sel, rv kd, iv 2, rv b123, .unset, .unset, .unset] [(.int 1), (.int 2)]))
      refine go_st (fun t k => XS.icmpNo X126.here hx rfl (hb hby at_85) rfl (tlt ((by decide) : (1 : Int32) < (2 : Int32))).2.2.2 k) ?_
      show Go _ _ _ _ (T126.setTop (mkF m 88 #[iv p0, iv p1, iv p2, iv p3, iv p4, iv p5, iv sel, rv kd, iv 2, rv b123, .unset, .unset, .unset] []))
      refine go_st (fun t k => XS.aload X126.here hx rfl (hb hby at_88) rfl rfl k) ?_
      show Go _ _ _ _ (T126.setTop (mkF m 90 #[iv p0, iv p1, iv p2, iv p3, iv p4, iv p5, iv sel, rv kd, iv 2, rv b123, .unset, .unset, .unset] [(.ref b123)]))
      refine go_st (fun t k => XS.iconst X126.here hx rfl (hb hby at_90) k) ?_
      show Go _ _ _ _ (T126.setTop (mkF m 91 #[iv p0, iv p1, iv p2, iv p3, iv p4, iv p5, iv sel, rv kd, iv 2, rv b123, .unset, .unset, .unset] [(.int 1), (.ref b123)]))
      refine go_st (fun t k => XS.iloadN X126.here hx rfl (hb hby at_91) rfl k) ?_
      show Go _ _ _ _ (T126.setTop (mkF m 92 #[iv p0, iv p1, iv p2, iv p3, iv p4, iv p5, iv sel, rv kd, iv 2, rv b123, .unset, .unset, .unset] [(.int p3), (.int 1), (.ref b123)]))
      refine go_st (fun t k => XS.sipush X126.here hx rfl (hb hby at_92) k) ?_
      show Go _ _ _ _ (T126.setTop (mkF m 95 #[iv p0, iv p1, iv p2, iv p3, iv p4, iv p5, iv sel, rv kd, iv 2, rv b123, .unset, .unset, .unset] [(.int 255), (.int p3), (.int 1), (.ref b123)]))
      refine go_st (fun t k => XS.iand X126.here hx rfl (hb hby at_95) rfl k) ?_
      show Go _ _ _ _ (T126.setTop (mkF m 96 #[iv p0, iv p1, iv p2, iv p3, iv p4, iv p5, iv sel, rv kd, iv 2, rv b123, .unset, .unset, .unset] [(.int (p3 &&& (255 : Int32))), (.int 1), (.ref b123)]))
      refine go_st (fun t k => XS.i2c X126.here hx rfl (hb hby at_96) rfl k) ?_
      show Go _ _ _ _ (T126.setTop (mkF m 97 #[iv p0, iv p1, iv p2, iv p3, iv p4, iv p5, iv sel, rv kd, iv 2, rv b123, .unset, .unset, .unset] [(.int (((p3 &&& (255 : Int32))).toUInt32.toUInt16.toUInt32.toInt32)), (.int 1), (.ref b123)]))
      obtain ⟨zc129, zA129, zq129, zS129, zN129, zH129, zG129⟩ := id f128
      have hin129 : ¬ ((1 : Int32) < 0 ∨ zc129.slots.size ≤ ((1 : Int32)).toNatClampNeg) := inb_of zS129 ⟨by decide, by decide⟩
      obtain ⟨T129, h129, X129, e129, W129, st129⟩ := stC X126 hx hZ e126 zA129 (j := (1 : Int32)) hin129 (g := (mkF m 97 #[iv p0, iv p1, iv p2, iv p3, iv p4, iv p5, iv sel, rv kd, iv 2, rv b123, .unset, .unset, .unset] [(.int (((p3 &&& (255 : Int32))).toUInt32.toUInt16.toUInt32.toInt32)), (.int 1), (.ref b123)])) rfl rfl (hb hby at_97)
      have N129 := Fr.snoc X129 N126 g_b123
      have C130 : CHr Z consts_1 s.vm h0 s.vm h129 := CHr.trans C127 (CHr.wr W129 (Safe.arv hZ.alike f128 (by decide)) C127.1)
      have f131 : Arv Z h129 b123 kc123 .char (2 : Int32) [(.int (nar .char (((p2 &&& (255 : Int32))).toUInt32.toUInt16.toUInt32.toInt32))), (.int (nar .char (((p3 &&& (255 : Int32))).toUInt32.toUInt16.toUInt32.toInt32)))] (.int 0) := Arv.set zA129 zq129 zS129 zN129 zH129 zG129 (fits_nar_char _) W129 1 rfl (Nat.le_of_ble_eq_true rfl)
      refine go_st (fun t k => st129 t k) ?_
      show Go _ _ _ _ (T129.setTop (mkF m 98 #[iv p0, iv p1, iv p2, iv p3, iv p4, iv p5, iv sel, rv kd, iv 2, rv b123, .unset, .unset, .unset] []))
      refine go_st (fun t k => XS.iload X129.here hx rfl (hb hby at_98) rfl k) ?_
      show Go _ _ _ _ (T129.setTop (mkF m 100 #[iv p0, iv p1, iv p2, iv p3, iv p4, iv p5, iv sel, rv kd, iv 2, rv b123, .unset, .unset, .unset] [(.int 2)]))
      refine go_st (fun t k => XS.iconst X129.here hx rfl (hb hby at_100) k) ?_
      show Go _ _ _ _ (T129.setTop (mkF m 101 #[iv p0, iv p1, iv p2, iv p3, iv p4, iv p5, iv sel, rv kd, iv 2, rv b123, .unset, .unset, .unset] [(.int 2), (.int 2)]))
      refine go_st (fun t k => XS.icmpYes X129.here hx rfl (pc0 := 101) (pc' := 115) rfl (hb hby at_101) rfl (flt ((by decide) : ¬ ((2 : Int32) < (2 : Int32)))).2.2.2 (by decide) (by decide) k) ?_
      show Go _ _ _ _ (T129.setTop (mkF m 115 #[iv p0, iv p1, iv p2, iv p3, iv p4, iv p5, iv sel, rv kd, iv 2, rv b123, .unset, .unset, .unset] []))
      refine go_st (fun t k => XS.iload X129.here hx rfl (hb hby at_115) rfl k) ?_
      show Go _ _ _ _ (T129.setTop (mkF m 117 #[iv p0, iv p1, iv p2, iv p3, iv p4, iv p5, iv sel, rv kd, iv 2, rv b123, .unset, .unset, .unset] [(.int 2)]))
      refine go_st (fun t k => XS.iconst X129.here hx rfl (hb hby at_117) k) ?_
      show Go _ _ _ _ (T129.setTop (mkF m 118 #[iv p0, iv p1, iv p2, iv p3, iv p4, iv p5, iv sel, rv kd, iv 2, rv b123, .unset, .unset, .unset] [(.int 3), (.int 2)]))
      refine go_st (fun t k => XS.icmpYes X129.here hx rfl (pc0 := 118) (pc' := 132) rfl (hb hby at_118) rfl (flt ((by decide) : ¬ ((3 : Int32) < (2 : Int32)))).2.2.2 (by decide) (by decide) k) ?_
      show Go _ _ _ _ (T129.setTop (mkF m 132 #[iv p0, iv p1, iv p2, iv p3, iv p4, iv p5, iv sel, rv kd, iv 2, rv b123, .unset, .unset, .unset] []))
      obtain ⟨T132, h132, X132, e132, E132, A132, D132, -, st132⟩ := newO X129 hx hZ hown (w8 hw) (w9 hw) (w10 hw) e129 (g := (mkF m 132 #[iv p0, iv p1, iv p2, iv p3, iv p4, iv p5, iv sel, rv kd, iv 2, rv b123, .unset, .unset, .unset] [])) rfl (hb hby at_132) (by decide) (by decide)
      obtain ⟨b132, gq132⟩ : ∃ z, z = h129.size := ⟨_, rfl⟩
      rw [← gq132] at A132 D132 st132
      have sn132 : Safe Z consts_1 s.vm h129 b132 := Safe.new (Nat.le_of_eq gq132.symm)
      have C133 : CHr Z consts_1 s.vm h0 s.vm h132 := CHr.trans C130 (CHr.ext E132 C130.1)
      have sf134 : Safe Z consts_1 s.vm h132 b132 := Safe.ext E132 C130.1 sn132
      have f135 : Fld Z h132 b132 "java/lang/String" "coder" "B" (.int 0) := D132 (Or.inr (w34 hw)) (ty := .byte) (by decide)
      have f136 : Fld Z h132 b132 "java/lang/String" "value" "[B" .null := D132 (Or.inr (w36 hw)) (ty := (.array .byte)) (by decide)
      refine go_st (fun t k => st132 t k) ?_
      show Go _ _ _ _ (T132.setTop (mkF m 135 #[iv p0, iv p1, iv p2, iv p3, iv p4, iv p5, iv sel, rv kd, iv 2, rv b123, .unset, .unset, .unset] [(.ref b132)]))
      refine go_st (fun t k => XS.dup X132.here hx rfl (hb hby at_135) rfl rfl k) ?_
      show Go _ _ _ _ (T132.setTop (mkF m 136 #[iv p0, iv p1, iv p2, iv p3, iv p4, iv p5, iv sel, rv kd, iv 2, rv b123, .unset, .unset, .unset] [(.ref b132), (.ref b132)]))
      refine go_st (fun t k => XS.aload X132.here hx rfl (hb hby at_136) rfl rfl k) ?_
      show Go _ _ _ _ (T132.setTop (mkF m 138 #[iv p0, iv p1, iv p2, iv p3, iv p4, iv p5, iv sel, rv kd, iv 2, rv b123, .unset, .unset, .unset] [(.ref b123), (.ref b132), (.ref b132)]))
      have f137 : Arv Z h132 b123 kc123 .char (2 : Int32) [(.int (nar .char (((p2 &&& (255 : Int32))).toUInt32.toUInt16.toUInt32.toInt32))), (.int (nar .char (((p3 &&& (255 : Int32))).toUInt32.toUInt16.toUInt32.toInt32)))] (.int 0) := (f131.ext E132)
      have oe138 : Old Z n0 h123 := (Old.ext O0 E123)
      have oe139 : Old Z n0 h126 := (Old.wr oe138 W126 g_b123)
      have oe140 : Old Z n0 h129 := (Old.wr oe139 W129 g_b123)
      have oe141 : Old Z n0 h132 := (Old.ext oe140 E132)
      have sz142 : h0.size ≤ h126.size := (Nat.le_trans E123.1 (Nat.le_of_eq W126.size.symm))
      have sz143 : h0.size ≤ h129.size := (Nat.le_trans sz142 (Nat.le_of_eq W129.size.symm))
      have g_b132 : n0 ≤ b132 := Nat.le_trans (Nat.le_trans Z0 sz143) (Nat.le_of_eq gq132.symm)
      have sz144 : h0.size ≤ h132.size := (Nat.le_trans sz143 E132.1)
      obtain ⟨_, _, ⟨T145, L145, kk145, nn145⟩, -, X145, ⟨Lc145, hQ145, lq145, yq145, zq145⟩, st145⟩ := X132.specialBack hx (y := (⟨"java/lang/String", "<init>", "([C)V"⟩ : MethodName)) rfl hown (mvT hZ (w11 hw)) (mvT hZ (w12 hw)) (mvT hZ (w13 hw)) (by decide) (StrChars.Road.backV (W := 1) hZ (words_in str_words hw) (kI := 4) (w9 hw) (cs := ([(nar .char (((p2 &&& (255 : Int32))).toUInt32.toUInt16.toUInt32.toInt32)), (nar .char (((p3 &&& (255 : Int32))).toUInt32.toUInt16.toUInt32.toInt32))] : List Int32)) (bs := ([(nar .char (((p2 &&& (255 : Int32))).toUInt32.toUInt16.toUInt32.toInt32)), (nar .char (((p3 &&& (255 : Int32))).toUInt32.toUInt16.toUInt32.toInt32))] : List Int32).map (fun c => c.toInt8.toInt32)) (n := 2) g_b132 (Nat.le_trans Z0 sz144) A132 f136 f135 f137 (Sta.ext oe141.2 CS) CSn rfl rfl (by decide) (by decide) (chars_cons (and255_chars _) (chars_cons (and255_chars _) chars_nil)) rfl (by decide) (by decide)) (g := (mkF m 138 #[iv p0, iv p1, iv p2, iv p3, iv p4, iv p5, iv sel, rv kd, iv 2, rv b123, .unset, .unset, .unset] [(.ref b123), (.ref b132), (.ref b132)])) rfl (by rw [hml]; rfl) (Steps.refl _) (a := b132) (argsL := [(.ref b123)]) (rest := [(.ref b132)]) (lenOf pd_12 rfl) rfl (by show 2 * 0 + _ ≤ _; exact Nat.le_of_eq rfl) (hb hby at_138) (fun _ _ => ⟨rfl, e132, (by decide : 2 + 1 ≤ _), (by decide : 6 + 2 ≤ _)⟩)
      dsimp only [Pt.U, Pt.locs, Pt.cells, Pt.slots] at X145 lq145 yq145 zq145 st145 hQ145
      subst lq145 yq145 zq145
      obtain ⟨h145, e145⟩ : ∃ z, T145.heap = z := ⟨_, rfl⟩
      rw [e145] at hQ145
      obtain ⟨rfl, N145q, K145, Es145, Cs145, t145, kb145, gt145, lt145, nt145, Vs145, As145⟩ := hQ145
      have N145 := Fr.app N129 N145q
      have C146 : CHr Z consts_1 s.vm h0 s.vm h145 := CHr.trans C133 (CHr.keep K145 (sfS sf134 sf0) C133.1)
      have sf147 : Safe Z consts_1 s.vm h145 b132 := (Safe.keep K145 (sfS sf134 sf0) C133.1 sf134)
      refine go_tr st145 ?_
      show Go _ _ _ _ (T145.setTop (mkF m 141 #[iv p0, iv p1, iv p2, iv p3, iv p4, iv p5, iv sel, rv kd, iv 2, rv b123, .unset, .unset, .unset] [(.ref b132)]))
      have sS148 : Str Z h145 b132 t145 ([(nar .char (((p2 &&& (255 : Int32))).toUInt32.toUInt16.toUInt32.toInt32)), (nar .char (((p3 &&& (255 : Int32))).toUInt32.toUInt16.toUInt32.toInt32))] : List Int32) := Str.of (n := 2) Es145 Vs145 Cs145 As145 rfl (by decide) (chars_cons (and255_chars _) (chars_cons (and255_chars _) chars_nil))
      refine go_st (fun t k => XS.astore X145.here hx rfl (hb hby at_141) rfl rfl (l' := #[iv p0, iv p1, iv p2, iv p3, iv p4, iv p5, iv sel, rv kd, iv 2, rv b123, rv b132, .unset, .unset]) rfl k) ?_
      show Go _ _ _ _ (T145.setTop (mkF m 143 #[iv p0, iv p1, iv p2, iv p3, iv p4, iv p5, iv sel, rv kd, iv 2, rv b123, rv b132, .unset, .unset] []))
      have xe149 : Ext h0 h123 := (ext_tr (ext_rfl h0) E123)
      have xe150 : Ext h0 h126 := (ext_wr xe149 W126 (Nat.le_of_eq gq123.symm))
      have xe151 : Ext h0 h129 := (ext_wr xe150 W129 (Nat.le_of_eq gq123.symm))
      have xe152 : Ext h0 h132 := (ext_tr xe151 E132)
      have xe153 : Ext h0 h145 := (ext_keep xe152 K145 (allS (Nat.le_trans sz143 (Nat.le_of_eq gq132.symm)) all0))
      have sz154 : h0.size ≤ h145.size := (Nat.le_trans sz144 K145.1)
      exact j3 _ _ _ _ _ (2 : Int32) b123 b132 t145 ([(nar .char (((p2 &&& (255 : Int32))).toUInt32.toUInt16.toUInt32.toInt32)), (nar .char (((p3 &&& (255 : Int32))).toUInt32.toUInt16.toUInt32.toInt32))] : List Int32) (X145.mono (by decide) (by decide)) N145 e145 xe153 hS0 (Nat.le_trans hk0 sz154) hZ hown C146 sS148
    · skip
      show Go _ _ _ _ (T2.setTop (mkF m 61 #[iv p0, iv p1, iv p2, iv p3, iv p4, iv p5, iv sel, rv kd, iv 3, .unset, .unset, .unset, .unset] []))
      refine go_st (fun t k => XS.iload X2.here hx rfl (hb hby at_61) rfl k) ?_
      show Go _ _ _ _ (T2.setTop (mkF m 63 #[iv p0, iv p1, iv p2, iv p3, iv p4, iv p5, iv sel, rv kd, iv 3, .unset, .unset, .unset, .unset] [(.int 3)]))
      obtain ⟨T155, h155, kc155, X155, e155, E155, A155, st155⟩ := newP X2 hx hZ (aty := .char) (w7 hw) e2 (g := (mkF m 63 #[iv p0, iv p1, iv p2, iv p3, iv p4, iv p5, iv sel, rv kd, iv 3, .unset, .unset, .unset, .unset] [(.int 3)])) rfl (hb hby at_63) rfl (by decide) (cap := 3) (by decide) (by decide) (by decide) (by decide)
      obtain ⟨b155, gq155⟩ : ∃ z, z = h0.size := ⟨_, rfl⟩
      rw [← gq155] at A155 st155
      have C156 : CHr Z consts_1 s.vm h0 s.vm h155 := CHr.trans C0 (CHr.ext E155 C0.1)
      have f157 : Arv Z h155 b155 kc155 .char (3 : Int32) [(.int 0), (.int 0), (.int 0)] (.int 0) := (Arv.new A155 (by decide)).pad (pad_rep [] (.int 0) 3)
      refine go_st (fun t k => st155 t k) ?_
      show Go _ _ _ _ (T155.setTop (mkF m 65 #[iv p0, iv p1, iv p2, iv p3, iv p4, iv p5, iv sel, rv kd, iv 3, .unset, .unset, .unset, .unset] [(.ref b155)]))
      refine go_st (fun t k => XS.astore X155.here hx rfl (hb hby at_65) rfl rfl (l' := #[iv p0, iv p1, iv p2, iv p3, iv p4, iv p5, iv sel, rv kd, iv 3, rv b155, .unset, .unset, .unset]) rfl k) ?_
      show Go _ _ _ _ (T155.setTop (mkF m 67 #[iv p0, iv p1, iv p2, iv p3, iv p4, iv p5, iv sel, rv kd, iv 3, rv b155, .unset, .unset, .unset] []))
      refine go_st (fun t k => XS.iload X155.here hx rfl (hb hby at_67) rfl k) ?_
      show Go _ _ _ _ (T155.setTop (mkF m 69 #[iv p0, iv p1, iv p2, iv p3, iv p4, iv p5, iv sel, rv kd, iv 3, rv b155, .unset, .unset, .unset] [(.int 3)]))
      refine go_st (fun t k => XS.ifNo X155.here hx rfl (hb hby at_69) rfl ((if0 _ _).trans (tlt ((by decide) : (0 : Int32) < (3 : Int32))).2.2.2) k) ?_
      show Go _ _ _ _ (T155.setTop (mkF m 72 #[iv p0, iv p1, iv p2, iv p3, iv p4, iv p5, iv sel, rv kd, iv 3, rv b155, .unset, .unset, .unset] []))
      refine go_st (fun t k => XS.aload X155.here hx rfl (hb hby at_72) rfl rfl k) ?_
      show Go _ _ _ _ (T155.setTop (mkF m 74 #[iv p0, iv p1, iv p2, iv p3, iv p4, iv p5, iv sel, rv kd, iv 3, rv b155, .unset, .unset, .unset] [(.ref b155)]))
      refine go_st (fun t k => XS.iconst X155.here hx rfl (hb hby at_74) k) ?_
      show Go _ _ _ _ (T155.setTop (mkF m 75 #[iv p0, iv p1, iv p2, iv p3, iv p4, iv p5, iv sel, rv kd, iv 3, rv b155, .unset, .unset, .unset] [(.int 0), (.ref b155)]))
      refine go_st (fun t k => XS.iloadN X155.here hx rfl (hb hby at_75) rfl k) ?_
      show Go _ _ _ _ (T155.setTop (mkF m 76 #[iv p0, iv p1, iv p2, iv p3, iv p4, iv p5, iv sel, rv kd, iv 3, rv b155, .unset, .unset, .unset] [(.int p2), (.int 0), (.ref b155)]))
      refine go_st (fun t k => XS.sipush X155.here hx rfl (hb hby at_76) k) ?_
      show Go _ _ _ _ (T155.setTop (mkF m 79 #[iv p0, iv p1, iv p2, iv p3, iv p4, iv p5, iv sel, rv kd, iv 3, rv b155, .unset, .unset, .unset] [(.int 255), (.int p2), (.int 0), (.ref b155)]))
      refine go_st (fun t k => XS.iand X155.here hx rfl (hb hby at_79) rfl k) ?_
      show Go _ _ _ _ (T155.setTop (mkF m 80 #[iv p0, iv p1, iv p2, iv p3, iv p4, iv p5, iv sel, rv kd, iv 3, rv b155, .unset, .unset, .unset] [(.int (p2 &&& (255 : Int32))), (.int 0), (.ref b155)]))
      refine go_st (fun t k => XS.i2c X155.here hx rfl (hb hby at_80) rfl k) ?_
      show Go _ _ _ _ (T155.setTop (mkF m 81 #[iv p0, iv p1, iv p2, iv p3, iv p4, iv p5, iv sel, rv kd, iv 3, rv b155, .unset, .unset, .unset] [(.int (((p2 &&& (255 : Int32))).toUInt32.toUInt16.toUInt32.toInt32)), (.int 0), (.ref b155)]))
      obtain ⟨zc158, zA158, zq158, zS158, zN158, zH158, zG158⟩ := id f157
      have hin158 : ¬ ((0 : Int32) < 0 ∨ zc158.slots.size ≤ ((0 : Int32)).toNatClampNeg) := inb_of zS158 ⟨by decide, by decide⟩
      obtain ⟨T158, h158, X158, e158, W158, st158⟩ := stC X155 hx hZ e155 zA158 (j := (0 : Int32)) hin158 (g := (mkF m 81 #[iv p0, iv p1, iv p2, iv p3, iv p4, iv p5, iv sel, rv kd, iv 3, rv b155, .unset, .unset, .unset] [(.int (((p2 &&& (255 : Int32))).toUInt32.toUInt16.toUInt32.toInt32)), (.int 0), (.ref b155)])) rfl rfl (hb hby at_81)
      have g_b155 : n0 ≤ b155 := Nat.le_trans (Nat.le_trans Z0 (Nat.le_refl _)) (Nat.le_of_eq gq155.symm)
      have N158 := Fr.snoc X158 N2 g_b155
      have C159 : CHr Z consts_1 s.vm h0 s.vm h158 := CHr.trans C156 (CHr.wr W158 (Safe.arv hZ.alike f157 (by decide)) C156.1)
      have f160 : Arv Z h158 b155 kc155 .char (3 : Int32) [(.int (nar .char (((p2 &&& (255 : Int32))).toUInt32.toUInt16.toUInt32.toInt32))), (.int 0), (.int 0)] (.int 0) := Arv.set zA158 zq158 zS158 zN158 zH158 zG158 (fits_nar_char _) W158 0 rfl (Nat.le_of_ble_eq_true rfl)
      refine go_st (fun t k => st158 t k) ?_
      show Go _ _ _ _ (T158.setTop (mkF m 82 #[iv p0, iv p1, iv p2, iv p3, iv p4, iv p5, iv sel, rv kd, iv 3, rv b155, .unset, .unset, .unset] []))
      refine go_st (fun t k => XS.iload X158.here hx rfl (hb hby at_82) rfl k) ?_
      show Go _ _ _ _ (T158.setTop (mkF m 84 #[iv p0, iv p1, iv p2, iv p3, iv p4, iv p5, iv sel, rv kd, iv 3, rv b155, .unset, .unset, .unset] [(.int 3)]))
      refine go_st (fun t k => XS.iconst X158.here hx rfl (hb hby at_84) k) ?_
      show Go _ _ _ _ (T158.setTop (mkF m 85 #[iv p0, iv p1, iv p2, iv p3, iv p4, iv p5, iv sel, rv kd, iv 3, rv b155, .unset, .unset, .unset] [(.int 1), (.int 3)]))
      refine go_st (fun t k => XS.icmpNo X158.here hx rfl (hb hby at_85) rfl (tlt ((by decide) : (1 : Int32) < (3 : Int32))).2.2.2 k) ?_
      show Go _ _ _ _ (T158.setTop (mkF m 88 #[iv p0, iv p1, iv p2, iv p3, iv p4, iv p5, iv sel, rv kd, iv 3, rv b155, .unset, .unset, .unset] []))
      refine go_st (fun t k => XS.aload X158.here hx rfl (hb hby at_88) rfl rfl k) ?_
      show Go _ _ _ _ (T158.setTop (mkF m 90 #[iv p0, iv p1, iv p2, iv p3, iv p4, iv p5, iv sel, rv kd, iv 3, rv b155, .unset, .unset, .unset] [(.ref b155)]))
      refine go_st (fun t k => XS.iconst X158.here hx rfl (hb hby at_90) k) ?_
      show Go _ _ _ _ (T158.setTop (mkF m 91 #[iv p0, iv p1, iv p2, iv p3, iv p4, iv p5, iv sel, rv kd, iv 3, rv b155, .unset, .unset, .unset] [(.int 1), (.ref b155)]))
      refine go_st (fun t k => XS.iloadN X158.here hx rfl (hb hby at_91) rfl k) ?_
      show Go _ _ _ _ (T158.setTop (mkF m 92 #[iv p0, iv p1, iv p2, iv p3, iv p4, iv p5, iv sel, rv kd, iv 3, rv b155, .unset, .unset, .unset] [(.int p3), (.int 1), (.ref b155)]))
      refine go_st (fun t k => XS.sipush X158.here hx rfl (hb hby at_92) k) ?_
      show Go _ _ _ _ (T158.setTop (mkF m 95 #[iv p0, iv p1, iv p2, iv p3, iv p4, iv p5, iv sel, rv kd, iv 3, rv b155, .unset, .unset, .unset] [(.int 255), (.int p3), (.int 1), (.ref b155)]))
      refine go_st (fun t k => XS.iand X158.here hx rfl (hb hby at_95) rfl k) ?_
      show Go _ _ _ _ (T158.setTop (mkF m 96 #[iv p0, iv p1, iv p2, iv p3, iv p4, iv p5, iv sel, rv kd, iv 3, rv b155, .unset, .unset, .unset] [(.int (p3 &&& (255 : Int32))), (.int 1), (.ref b155)]))
      refine go_st (fun t k => XS.i2c X158.here hx rfl (hb hby at_96) rfl k) ?_
      show Go _ _ _ _ (T158.setTop (mkF m 97 #[iv p0, iv p1, iv p2, iv p3, iv p4, iv p5, iv sel, rv kd, iv 3, rv b155, .unset, .unset, .unset] [(.int (((p3 &&& (255 : Int32))).toUInt32.toUInt16.toUInt32.toInt32)), (.int 1), (.ref b155)]))
      obtain ⟨zc161, zA161, zq161, zS161, zN161, zH161, zG161⟩ := id f160
      have hin161 : ¬ ((1 : Int32) < 0 ∨ zc161.slots.size ≤ ((1 : Int32)).toNatClampNeg) := inb_of zS161 ⟨by decide, by decide⟩
      obtain ⟨T161, h161, X161, e161, W161, st161⟩ := stC X158 hx hZ e158 zA161 (j := (1 : Int32)) hin161 (g := (mkF m 97 #[iv p0, iv p1, iv p2, iv p3, iv p4, iv p5, iv sel, rv kd, iv 3, rv b155, .unset, .unset, .unset] [(.int (((p3 &&& (255 : Int32))).toUInt32.toUInt16.toUInt32.toInt32)), (.int 1), (.ref b155)])) rfl rfl (hb hby at_97)
      have N161 := Fr.snoc X161 N158 g_b155
      have C162 : CHr Z consts_1 s.vm h0 s.vm h161 := CHr.trans C159 (CHr.wr W161 (Safe.arv hZ.alike f160 (by decide)) C159.1)
      have f163 : Arv Z h161 b155 kc155 .char (3 : Int32) [(.int (nar .char (((p2 &&& (255 : Int32))).toUInt32.toUInt16.toUInt32.toInt32))), (.int (nar .char (((p3 &&& (255 : Int32))).toUInt32.toUInt16.toUInt32.toInt32))), (.int 0)] (.int 0) := Arv.set zA161 zq161 zS161 zN161 zH161 zG161 (fits_nar_char _) W161 1 rfl (Nat.le_of_ble_eq_true rfl)
      refine go_st (fun t k => st161 t k) ?_
      show Go _ _ _ _ (T161.setTop (mkF m 98 #[iv p0, iv p1, iv p2, iv p3, iv p4, iv p5, iv sel, rv kd, iv 3, rv b155, .unset, .unset, .unset] []))
      refine go_st (fun t k => XS.iload X161.here hx rfl (hb hby at_98) rfl k) ?_
      show Go _ _ _ _ (T161.setTop (mkF m 100 #[iv p0, iv p1, iv p2, iv p3, iv p4, iv p5, iv sel, rv kd, iv 3, rv b155, .unset, .unset, .unset] [(.int 3)]))
      refine go_st (fun t k => XS.iconst X161.here hx rfl (hb hby at_100) k) ?_
      show Go _ _ _ _ (T161.setTop (mkF m 101 #[iv p0, iv p1, iv p2, iv p3, iv p4, iv p5, iv sel, rv kd, iv 3, rv b155, .unset, .unset, .unset] [(.int 2), (.int 3)]))
      refine go_st (fun t k => XS.icmpNo X161.here hx rfl (hb hby at_101) rfl (tlt ((by decide) : (2 : Int32) < (3 : Int32))).2.2.2 k) ?_
      show Go _ _ _ _ (T161.setTop (mkF m 104 #[iv p0, iv p1, iv p2, iv p3, iv p4, iv p5, iv sel, rv kd, iv 3, rv b155, .unset, .unset, .unset] []))
      refine go_st (fun t k => XS.aload X161.here hx rfl (hb hby at_104) rfl rfl k) ?_
      show Go _ _ _ _ (T161.setTop (mkF m 106 #[iv p0, iv p1, iv p2, iv p3, iv p4, iv p5, iv sel, rv kd, iv 3, rv b155, .unset, .unset, .unset] [(.ref b155)]))
      refine go_st (fun t k => XS.iconst X161.here hx rfl (hb hby at_106) k) ?_
      show Go _ _ _ _ (T161.setTop (mkF m 107 #[iv p0, iv p1, iv p2, iv p3, iv p4, iv p5, iv sel, rv kd, iv 3, rv b155, .unset, .unset, .unset] [(.int 2), (.ref b155)]))
      refine go_st (fun t k => XS.iload X161.here hx rfl (hb hby at_107) rfl k) ?_
      show Go _ _ _ _ (T161.setTop (mkF m 109 #[iv p0, iv p1, iv p2, iv p3, iv p4, iv p5, iv sel, rv kd, iv 3, rv b155, .unset, .unset, .unset] [(.int p4), (.int 2), (.ref b155)]))
      refine go_st (fun t k => XS.sipush X161.here hx rfl (hb hby at_109) k) ?_
      show Go _ _ _ _ (T161.setTop (mkF m 112 #[iv p0, iv p1, iv p2, iv p3, iv p4, iv p5, iv sel, rv kd, iv 3, rv b155, .unset, .unset, .unset] [(.int 255), (.int p4), (.int 2), (.ref b155)]))
      refine go_st (fun t k => XS.iand X161.here hx rfl (hb hby at_112) rfl k) ?_
      show Go _ _ _ _ (T161.setTop (mkF m 113 #[iv p0, iv p1, iv p2, iv p3, iv p4, iv p5, iv sel, rv kd, iv 3, rv b155, .unset, .unset, .unset] [(.int (p4 &&& (255 : Int32))), (.int 2), (.ref b155)]))
      refine go_st (fun t k => XS.i2c X161.here hx rfl (hb hby at_113) rfl k) ?_
      show Go _ _ _ _ (T161.setTop (mkF m 114 #[iv p0, iv p1, iv p2, iv p3, iv p4, iv p5, iv sel, rv kd, iv 3, rv b155, .unset, .unset, .unset] [(.int (((p4 &&& (255 : Int32))).toUInt32.toUInt16.toUInt32.toInt32)), (.int 2), (.ref b155)]))
      obtain ⟨zc164, zA164, zq164, zS164, zN164, zH164, zG164⟩ := id f163
      have hin164 : ¬ ((2 : Int32) < 0 ∨ zc164.slots.size ≤ ((2 : Int32)).toNatClampNeg) := inb_of zS164 ⟨by decide, by decide⟩
      obtain ⟨T164, h164, X164, e164, W164, st164⟩ := stC X161 hx hZ e161 zA164 (j := (2 : Int32)) hin164 (g := (mkF m 114 #[iv p0, iv p1, iv p2, iv p3, iv p4, iv p5, iv sel, rv kd, iv 3, rv b155, .unset, .unset, .unset] [(.int (((p4 &&& (255 : Int32))).toUInt32.toUInt16.toUInt32.toInt32)), (.int 2), (.ref b155)])) rfl rfl (hb hby at_114)
      have N164 := Fr.snoc X164 N161 g_b155
      have C165 : CHr Z consts_1 s.vm h0 s.vm h164 := CHr.trans C162 (CHr.wr W164 (Safe.arv hZ.alike f163 (by decide)) C162.1)
      have f166 : Arv Z h164 b155 kc155 .char (3 : Int32) [(.int (nar .char (((p2 &&& (255 : Int32))).toUInt32.toUInt16.toUInt32.toInt32))), (.int (nar .char (((p3 &&& (255 : Int32))).toUInt32.toUInt16.toUInt32.toInt32))), (.int (nar .char (((p4 &&& (255 : Int32))).toUInt32.toUInt16.toUInt32.toInt32)))] (.int 0) := Arv.set zA164 zq164 zS164 zN164 zH164 zG164 (fits_nar_char _) W164 2 rfl (Nat.le_of_ble_eq_true rfl)
      refine go_st (fun t k => st164 t k) ?_
      show Go _ _ _ _ (T164.setTop (mkF m 115 #[iv p0, iv p1, iv p2, iv p3, iv p4, iv p5, iv sel, rv kd, iv 3, rv b155, .unset, .unset, .unset] []))
      refine go_st (fun t k => XS.iload X164.here hx rfl (hb hby at_115) rfl k) ?_
      show Go _ _ _ _ (T164.setTop (mkF m 117 #[iv p0, iv p1, iv p2, iv p3, iv p4, iv p5, iv sel, rv kd, iv 3, rv b155, .unset, .unset, .unset] [(.int 3)]))
      refine go_st (fun t k => XS.iconst X164.here hx rfl (hb hby at_117) k) ?_
      show Go _ _ _ _ (T164.setTop (mkF m 118 #[iv p0, iv p1, iv p2, iv p3, iv p4, iv p5, iv sel, rv kd, iv 3, rv b155, .unset, .unset, .unset] [(.int 3), (.int 3)]))
      refine go_st (fun t k => XS.icmpYes X164.here hx rfl (pc0 := 118) (pc' := 132) rfl (hb hby at_118) rfl (flt ((by decide) : ¬ ((3 : Int32) < (3 : Int32)))).2.2.2 (by decide) (by decide) k) ?_
      show Go _ _ _ _ (T164.setTop (mkF m 132 #[iv p0, iv p1, iv p2, iv p3, iv p4, iv p5, iv sel, rv kd, iv 3, rv b155, .unset, .unset, .unset] []))
      obtain ⟨T167, h167, X167, e167, E167, A167, D167, -, st167⟩ := newO X164 hx hZ hown (w8 hw) (w9 hw) (w10 hw) e164 (g := (mkF m 132 #[iv p0, iv p1, iv p2, iv p3, iv p4, iv p5, iv sel, rv kd, iv 3, rv b155, .unset, .unset, .unset] [])) rfl (hb hby at_132) (by decide) (by decide)
      obtain ⟨b167, gq167⟩ : ∃ z, z = h164.size := ⟨_, rfl⟩
      rw [← gq167] at A167 D167 st167
      have sn167 : Safe Z consts_1 s.vm h164 b167 := Safe.new (Nat.le_of_eq gq167.symm)
      have C168 : CHr Z consts_1 s.vm h0 s.vm h167 := CHr.trans C165 (CHr.ext E167 C165.1)
      have sf169 : Safe Z consts_1 s.vm h167 b167 := Safe.ext E167 C165.1 sn167
      have f170 : Fld Z h167 b167 "java/lang/String" "coder" "B" (.int 0) := D167 (Or.inr (w34 hw)) (ty := .byte) (by decide)
      have f171 : Fld Z h167 b167 "java/lang/String" "value" "[B" .null := D167 (Or.inr (w36 hw)) (ty := (.array .byte)) (by decide)
      refine go_st (fun t k => st167 t k) ?_
      show Go _ _ _ _ (T167.setTop (mkF m 135 #[iv p0, iv p1, iv p2, iv p3, iv p4, iv p5, iv sel, rv kd, iv 3, rv b155, .unset, .unset, .unset] [(.ref b167)]))
      refine go_st (fun t k => XS.dup X167.here hx rfl (hb hby at_135) rfl rfl k) ?_
      show Go _ _ _ _ (T167.setTop (mkF m 136 #[iv p0, iv p1, iv p2, iv p3, iv p4, iv p5, iv sel, rv kd, iv 3, rv b155, .unset, .unset, .unset] [(.ref b167), (.ref b167)]))
      refine go_st (fun t k => XS.aload X167.here hx rfl (hb hby at_136) rfl rfl k) ?_
      show Go _ _ _ _ (T167.setTop (mkF m 138 #[iv p0, iv p1, iv p2, iv p3, iv p4, iv p5, iv sel, rv kd, iv 3, rv b155, .unset, .unset, .unset] [(.ref b155), (.ref b167), (.ref b167)]))
      have f172 : Arv Z h167 b155 kc155 .char (3 : Int32) [(.int (nar .char (((p2 &&& (255 : Int32))).toUInt32.toUInt16.toUInt32.toInt32))), (.int (nar .char (((p3 &&& (255 : Int32))).toUInt32.toUInt16.toUInt32.toInt32))), (.int (nar .char (((p4 &&& (255 : Int32))).toUInt32.toUInt16.toUInt32.toInt32)))] (.int 0) := (f166.ext E167)
      have oe173 : Old Z n0 h155 := (Old.ext O0 E155)
      have oe174 : Old Z n0 h158 := (Old.wr oe173 W158 g_b155)
      have oe175 : Old Z n0 h161 := (Old.wr oe174 W161 g_b155)
      have oe176 : Old Z n0 h164 := (Old.wr oe175 W164 g_b155)
      have oe177 : Old Z n0 h167 := (Old.ext oe176 E167)
      have sz178 : h0.size ≤ h158.size := (Nat.le_trans E155.1 (Nat.le_of_eq W158.size.symm))
      have sz179 : h0.size ≤ h161.size := (Nat.le_trans sz178 (Nat.le_of_eq W161.size.symm))
      have sz180 : h0.size ≤ h164.size := (Nat.le_trans sz179 (Nat.le_of_eq W164.size.symm))
      have g_b167 : n0 ≤ b167 := Nat.le_trans (Nat.le_trans Z0 sz180) (Nat.le_of_eq gq167.symm)
      have sz181 : h0.size ≤ h167.size := (Nat.le_trans sz180 E167.1)
      obtain ⟨_, _, ⟨T182, L182, kk182, nn182⟩, -, X182, ⟨Lc182, hQ182, lq182, yq182, zq182⟩, st182⟩ := X167.specialBack hx (y := (⟨"java/lang/String", "<init>", "([C)V"⟩ : MethodName)) rfl hown (mvT hZ (w11 hw)) (mvT hZ (w12 hw)) (mvT hZ (w13 hw)) (by decide) (StrChars.Road.backV (W := 1) hZ (words_in str_words hw) (kI := 4) (w9 hw) (cs := ([(nar .char (((p2 &&& (255 : Int32))).toUInt32.toUInt16.toUInt32.toInt32)), (nar .char (((p3 &&& (255 : Int32))).toUInt32.toUInt16.toUInt32.toInt32)), (nar .char (((p4 &&& (255 : Int32))).toUInt32.toUInt16.toUInt32.toInt32))] : List Int32)) (bs := ([(nar .char (((p2 &&& (255 : Int32))).toUInt32.toUInt16.toUInt32.toInt32)), (nar .char (((p3 &&& (255 : Int32))).toUInt32.toUInt16.toUInt32.toInt32)), (nar .char (((p4 &&& (255 : Int32))).toUInt32.toUInt16.toUInt32.toInt32))] : List Int32).map (fun c => c.toInt8.toInt32)) (n := 3) g_b167 (Nat.le_trans Z0 sz181) A167 f171 f170 f172 (Sta.ext oe177.2 CS) CSn rfl rfl (by decide) (by decide) (chars_cons (and255_chars _) (chars_cons (and255_chars _) (chars_cons (and255_chars _) chars_nil))) rfl (by decide) (by decide)) (g := (mkF m 138 #[iv p0, iv p1, iv p2, iv p3, iv p4, iv p5, iv sel, rv kd, iv 3, rv b155, .unset, .unset, .unset] [(.ref b155), (.ref b167), (.ref b167)])) rfl (by rw [hml]; rfl) (Steps.refl _) (a := b167) (argsL := [(.ref b155)]) (rest := [(.ref b167)]) (lenOf pd_12 rfl) rfl (by show 2 * 0 + _ ≤ _; exact Nat.le_of_eq rfl) (hb hby at_138) (fun _ _ => ⟨rfl, e167, (by decide : 2 + 1 ≤ _), (by decide : 7 + 3 ≤ _)⟩)
      dsimp only [Pt.U, Pt.locs, Pt.cells, Pt.slots] at X182 lq182 yq182 zq182 st182 hQ182
      subst lq182 yq182 zq182
      obtain ⟨h182, e182⟩ : ∃ z, T182.heap = z := ⟨_, rfl⟩
      rw [e182] at hQ182
      obtain ⟨rfl, N182q, K182, Es182, Cs182, t182, kb182, gt182, lt182, nt182, Vs182, As182⟩ := hQ182
      have N182 := Fr.app N164 N182q
      have C183 : CHr Z consts_1 s.vm h0 s.vm h182 := CHr.trans C168 (CHr.keep K182 (sfS sf169 sf0) C168.1)
      have sf184 : Safe Z consts_1 s.vm h182 b167 := (Safe.keep K182 (sfS sf169 sf0) C168.1 sf169)
      refine go_tr st182 ?_
      show Go _ _ _ _ (T182.setTop (mkF m 141 #[iv p0, iv p1, iv p2, iv p3, iv p4, iv p5, iv sel, rv kd, iv 3, rv b155, .unset, .unset, .unset] [(.ref b167)]))
      have sS185 : Str Z h182 b167 t182 ([(nar .char (((p2 &&& (255 : Int32))).toUInt32.toUInt16.toUInt32.toInt32)), (nar .char (((p3 &&& (255 : Int32))).toUInt32.toUInt16.toUInt32.toInt32)), (nar .char (((p4 &&& (255 : Int32))).toUInt32.toUInt16.toUInt32.toInt32))] : List Int32) := Str.of (n := 3) Es182 Vs182 Cs182 As182 rfl (by decide) (chars_cons (and255_chars _) (chars_cons (and255_chars _) (chars_cons (and255_chars _) chars_nil)))
      refine go_st (fun t k => XS.astore X182.here hx rfl (hb hby at_141) rfl rfl (l' := #[iv p0, iv p1, iv p2, iv p3, iv p4, iv p5, iv sel, rv kd, iv 3, rv b155, rv b167, .unset, .unset]) rfl k) ?_
      show Go _ _ _ _ (T182.setTop (mkF m 143 #[iv p0, iv p1, iv p2, iv p3, iv p4, iv p5, iv sel, rv kd, iv 3, rv b155, rv b167, .unset, .unset] []))
      have xe186 : Ext h0 h155 := (ext_tr (ext_rfl h0) E155)
      have xe187 : Ext h0 h158 := (ext_wr xe186 W158 (Nat.le_of_eq gq155.symm))
      have xe188 : Ext h0 h161 := (ext_wr xe187 W161 (Nat.le_of_eq gq155.symm))
      have xe189 : Ext h0 h164 := (ext_wr xe188 W164 (Nat.le_of_eq gq155.symm))
      have xe190 : Ext h0 h167 := (ext_tr xe189 E167)
      have xe191 : Ext h0 h182 := (ext_keep xe190 K182 (allS (Nat.le_trans sz180 (Nat.le_of_eq gq167.symm)) all0))
      have sz192 : h0.size ≤ h182.size := (Nat.le_trans sz181 K182.1)
      exact j3 _ _ _ _ _ (3 : Int32) b155 b167 t182 ([(nar .char (((p2 &&& (255 : Int32))).toUInt32.toUInt16.toUInt32.toInt32)), (nar .char (((p3 &&& (255 : Int32))).toUInt32.toUInt16.toUInt32.toInt32)), (nar .char (((p4 &&& (255 : Int32))).toUInt32.toUInt16.toUInt32.toInt32))] : List Int32) (X182.mono (by decide) (by decide)) N182 e182 xe191 hS0 (Nat.le_trans hk0 sz192) hZ hown C183 sS185
    · skip
      show Go _ _ _ _ (T2.setTop (mkF m 61 #[iv p0, iv p1, iv p2, iv p3, iv p4, iv p5, iv sel, rv kd, iv 4, .unset, .unset, .unset, .unset] []))
      refine go_st (fun t k => XS.iload X2.here hx rfl (hb hby at_61) rfl k) ?_
      show Go _ _ _ _ (T2.setTop (mkF m 63 #[iv p0, iv p1, iv p2, iv p3, iv p4, iv p5, iv sel, rv kd, iv 4, .unset, .unset, .unset, .unset] [(.int 4)]))
      obtain ⟨T193, h193, kc193, X193, e193, E193, A193, st193⟩ := newP X2 hx hZ (aty := .char) (w7 hw) e2 (g := (mkF m 63 #[iv p0, iv p1, iv p2, iv p3, iv p4, iv p5, iv sel, rv kd, iv 4, .unset, .unset, .unset, .unset] [(.int 4)])) rfl (hb hby at_63) rfl (by decide) (cap := 4) (by decide) (by decide) (by decide) (by decide)
      obtain ⟨b193, gq193⟩ : ∃ z, z = h0.size := ⟨_, rfl⟩
      rw [← gq193] at A193 st193
      have C194 : CHr Z consts_1 s.vm h0 s.vm h193 := CHr.trans C0 (CHr.ext E193 C0.1)
      have f195 : Arv Z h193 b193 kc193 .char (4 : Int32) [(.int 0), (.int 0), (.int 0), (.int 0)] (.int 0) := (Arv.new A193 (by decide)).pad (pad_rep [] (.int 0) 4)
      refine go_st (fun t k => st193 t k) ?_
      show Go _ _ _ _ (T193.setTop (mkF m 65 #[iv p0, iv p1, iv p2, iv p3, iv p4, iv p5, iv sel, rv kd, iv 4, .unset, .unset, .unset, .unset] [(.ref b193)]))
      refine go_st (fun t k => XS.astore X193.here hx rfl (hb hby at_65) rfl rfl (l' := #[iv p0, iv p1, iv p2, iv p3, iv p4, iv p5, iv sel, rv kd, iv 4, rv b193, .unset, .unset, .unset]) rfl k) ?_
      show Go _ _ _ _ (T193.setTop (mkF m 67 #[iv p0, iv p1, iv p2, iv p3, iv p4, iv p5, iv sel, rv kd, iv 4, rv b193, .unset, .unset, .unset] []))
      refine go_st (fun t k => XS.iload X193.here hx rfl (hb hby at_67) rfl k) ?_
      show Go _ _ _ _ (T193.setTop (mkF m 69 #[iv p0, iv p1, iv p2, iv p3, iv p4, iv p5, iv sel, rv kd, iv 4, rv b193, .unset, .unset, .unset] [(.int 4)]))
      refine go_st (fun t k => XS.ifNo X193.here hx rfl (hb hby at_69) rfl ((if0 _ _).trans (tlt ((by decide) : (0 : Int32) < (4 : Int32))).2.2.2) k) ?_
      show Go _ _ _ _ (T193.setTop (mkF m 72 #[iv p0, iv p1, iv p2, iv p3, iv p4, iv p5, iv sel, rv kd, iv 4, rv b193, .unset, .unset, .unset] []))
      refine go_st (fun t k => XS.aload X193.here hx rfl (hb hby at_72) rfl rfl k) ?_
      show Go _ _ _ _ (T193.setTop (mkF m 74 #[iv p0, iv p1, iv p2, iv p3, iv p4, iv p5, iv sel, rv kd, iv 4, rv b193, .unset, .unset, .unset] [(.ref b193)]))
      refine go_st (fun t k => XS.iconst X193.here hx rfl (hb hby at_74) k) ?_
      show Go _ _ _ _ (T193.setTop (mkF m 75 #[iv p0, iv p1, iv p2, iv p3, iv p4, iv p5, iv sel, rv kd, iv 4, rv b193, .unset, .unset, .unset] [(.int 0), (.ref b193)]))
      refine go_st (fun t k => XS.iloadN X193.here hx rfl (hb hby at_75) rfl k) ?_
      show Go _ _ _ _ (T193.setTop (mkF m 76 #[iv p0, iv p1, iv p2, iv p3, iv p4, iv p5, iv sel, rv kd, iv 4, rv b193, .unset, .unset, .unset] [(.int p2), (.int 0), (.ref b193)]))
      refine go_st (fun t k => XS.sipush X193.here hx rfl (hb hby at_76) k) ?_
      show Go _ _ _ _ (T193.setTop (mkF m 79 #[iv p0, iv p1, iv p2, iv p3, iv p4, iv p5, iv sel, rv kd, iv 4, rv b193, .unset, .unset, .unset] [(.int 255), (.int p2), (.int 0), (.ref b193)]))
      refine go_st (fun t k => XS.iand X193.here hx rfl (hb hby at_79) rfl k) ?_
      show Go _ _ _ _ (T193.setTop (mkF m 80 #[iv p0, iv p1, iv p2, iv p3, iv p4, iv p5, iv sel, rv kd, iv 4, rv b193, .unset, .unset, .unset] [(.int (p2 &&& (255 : Int32))), (.int 0), (.ref b193)]))
      refine go_st (fun t k => XS.i2c X193.here hx rfl (hb hby at_80) rfl k) ?_
      show Go _ _ _ _ (T193.setTop (mkF m 81 #[iv p0, iv p1, iv p2, iv p3, iv p4, iv p5, iv sel, rv kd, iv 4, rv b193, .unset, .unset, .unset] [(.int (((p2 &&& (255 : Int32))).toUInt32.toUInt16.toUInt32.toInt32)), (.int 0), (.ref b193)]))
      obtain ⟨zc196, zA196, zq196, zS196, zN196, zH196, zG196⟩ := id f195
      have hin196 : ¬ ((0 : Int32) < 0 ∨ zc196.slots.size ≤ ((0 : Int32)).toNatClampNeg) := inb_of zS196 ⟨by decide, by decide⟩
      obtain ⟨T196, h196, X196, e196, W196, st196⟩ := stC X193 hx hZ e193 zA196 (j := (0 : Int32)) hin196 (g := (mkF m 81 #[iv p0, iv p1, iv p2, iv p3, iv p4, iv p5, iv sel, rv kd, iv 4, rv b193, .unset, .unset, .unset] [(.int (((p2 &&& (255 : Int32))).toUInt32.toUInt16.toUInt32.toInt32)), (.int 0), (.ref b193)])) rfl rfl (hb hby at_81)
      have g_b193 : n0 ≤ b193 := Nat.le_trans (Nat.le_trans Z0 (Nat.le_refl _)) (Nat.le_of_eq gq193.symm)
      have N196 := Fr.snoc X196 N2 g_b193
      have C197 : CHr Z consts_1 s.vm h0 s.vm h196 := CHr.trans C194 (CHr.wr W196 (Safe.arv hZ.alike f195 (by decide)) C194.1)
      have f198 : Arv Z h196 b193 kc193 .char (4 : Int32) [(.int (nar .char (((p2 &&& (255 : Int32))).toUInt32.toUInt16.toUInt32.toInt32))), (.int 0), (.int 0), (.int 0)] (.int 0) := Arv.set zA196 zq196 zS196 zN196 zH196 zG196 (fits_nar_char _) W196 0 rfl (Nat.le_of_ble_eq_true rfl)
      refine go_st (fun t k => st196 t k) ?_
      show Go _ _ _ _ (T196.setTop (mkF m 82 #[iv p0, iv p1, iv p2, iv p3, iv p4, iv p5, iv sel, rv kd, iv 4, rv b193, .unset, .unset, .unset] []))
      refine go_st (fun t k => XS.iload X196.here hx rfl (hb hby at_82) rfl k) ?_
      show Go _ _ _ _ (T196.setTop (mkF m 84 #[iv p0, iv p1, iv p2, iv p3, iv p4, iv p5, iv sel, rv kd, iv 4, rv b193, .unset, .unset, .unset] [(.int 4)]))
      refine go_st (fun t k => XS.iconst X196.here hx rfl (hb hby at_84) k) ?_
      show Go _ _ _ _ (T196.setTop (mkF m 85 #[iv p0, iv p1, iv p2, iv p3, iv p4, iv p5, iv sel, rv kd, iv 4, rv b193, .unset, .unset, .unset] [(.int 1), (.int 4)]))
      refine go_st (fun t k => XS.icmpNo X196.here hx rfl (hb hby at_85) rfl (tlt ((by decide) : (1 : Int32) < (4 : Int32))).2.2.2 k) ?_
      show Go _ _ _ _ (T196.setTop (mkF m 88 #[iv p0, iv p1, iv p2, iv p3, iv p4, iv p5, iv sel, rv kd, iv 4, rv b193, .unset, .unset, .unset] []))
      refine go_st (fun t k => XS.aload X196.here hx rfl (hb hby at_88) rfl rfl k) ?_
      show Go _ _ _ _ (T196.setTop (mkF m 90 #[iv p0, iv p1, iv p2, iv p3, iv p4, iv p5, iv sel, rv kd, iv 4, rv b193, .unset, .unset, .unset] [(.ref b193)]))
      refine go_st (fun t k => XS.iconst X196.here hx rfl (hb hby at_90) k) ?_
      show Go _ _ _ _ (T196.setTop (mkF m 91 #[iv p0, iv p1, iv p2, iv p3, iv p4, iv p5, iv sel, rv kd, iv 4, rv b193, .unset, .unset, .unset] [(.int 1), (.ref b193)]))
      refine go_st (fun t k => XS.iloadN X196.here hx rfl (hb hby at_91) rfl k) ?_
      show Go _ _ _ _ (T196.setTop (mkF m 92 #[iv p0, iv p1, iv p2, iv p3, iv p4, iv p5, iv sel, rv kd, iv 4, rv b193, .unset, .unset, .unset] [(.int p3), (.int 1), (.ref b193)]))
      refine go_st (fun t k => XS.sipush X196.here hx rfl (hb hby at_92) k) ?_
      show Go _ _ _ _ (T196.setTop (mkF m 95 #[iv p0, iv p1, iv p2, iv p3, iv p4, iv p5, iv sel, rv kd, iv 4, rv b193, .unset, .unset, .unset] [(.int 255), (.int p3), (.int 1), (.ref b193)]))
      refine go_st (fun t k => XS.iand X196.here hx rfl (hb hby at_95) rfl k) ?_
      show Go _ _ _ _ (T196.setTop (mkF m 96 #[iv p0, iv p1, iv p2, iv p3, iv p4, iv p5, iv sel, rv kd, iv 4, rv b193, .unset, .unset, .unset] [(.int (p3 &&& (255 : Int32))), (.int 1), (.ref b193)]))
      refine go_st (fun t k => XS.i2c X196.here hx rfl (hb hby at_96) rfl k) ?_
      show Go _ _ _ _ (T196.setTop (mkF m 97 #[iv p0, iv p1, iv p2, iv p3, iv p4, iv p5, iv sel, rv kd, iv 4, rv b193, .unset, .unset, .unset] [(.int (((p3 &&& (255 : Int32))).toUInt32.toUInt16.toUInt32.toInt32)), (.int 1), (.ref b193)]))
      obtain ⟨zc199, zA199, zq199, zS199, zN199, zH199, zG199⟩ := id f198
      have hin199 : ¬ ((1 : Int32) < 0 ∨ zc199.slots.size ≤ ((1 : Int32)).toNatClampNeg) := inb_of zS199 ⟨by decide, by decide⟩
      obtain ⟨T199, h199, X199, e199, W199, st199⟩ := stC X196 hx hZ e196 zA199 (j := (1 : Int32)) hin199 (g := (mkF m 97 #[iv p0, iv p1, iv p2, iv p3, iv p4, iv p5, iv sel, rv kd, iv 4, rv b193, .unset, .unset, .unset] [(.int (((p3 &&& (255 : Int32))).toUInt32.toUInt16.toUInt32.toInt32)), (.int 1), (.ref b193)])) rfl rfl (hb hby at_97)
      have N199 := Fr.snoc X199 N196 g_b193
      have C200 : CHr Z consts_1 s.vm h0 s.vm h199 := CHr.trans C197 (CHr.wr W199 (Safe.arv hZ.alike f198 (by decide)) C197.1)
      have f201 : Arv Z h199 b193 kc193 .char (4 : Int32) [(.int (nar .char (((p2 &&& (255 : Int32))).toUInt32.toUInt16.toUInt32.toInt32))), (.int (nar .char (((p3 &&& (255 : Int32))).toUInt32.toUInt16.toUInt32.toInt32))), (.int 0), (.int 0)] (.int 0) := Arv.set zA199 zq199 zS199 zN199 zH199 zG199 (fits_nar_char _) W199 1 rfl (Nat.le_of_ble_eq_true rfl)
      refine go_st (fun t k => st199 t k) ?_
      show Go _ _ _ _ (T199.setTop (mkF m 98 #[iv p0, iv p1, iv p2, iv p3, iv p4, iv p5, iv sel, rv kd, iv 4, rv b193, .unset, .unset, .unset] []))
      refine go_st (fun t k => XS.iload X199.here hx rfl (hb hby at_98) rfl k) ?_
      show Go _ _ _ _ (T199.setTop (mkF m 100 #[iv p0, iv p1, iv p2, iv p3, iv p4, iv p5, iv sel, rv kd, iv 4, rv b193, .unset, .unset, .unset] [(.int 4)]))
      refine go_st (fun t k => XS.iconst X199.here hx rfl (hb hby at_100) k) ?_
      show Go _ _ _ _ (T199.setTop (mkF m 101 #[iv p0, iv p1, iv p2, iv p3, iv p4, iv p5, iv sel, rv kd, iv 4, rv b193, .unset, .unset, .unset] [(.int 2), (.int 4)]))
      refine go_st (fun t k => XS.icmpNo X199.here hx rfl (hb hby at_101) rfl (tlt ((by decide) : (2 : Int32) < (4 : Int32))).2.2.2 k) ?_
      show Go _ _ _ _ (T199.setTop (mkF m 104 #[iv p0, iv p1, iv p2, iv p3, iv p4, iv p5, iv sel, rv kd, iv 4, rv b193, .unset, .unset, .unset] []))
      refine go_st (fun t k => XS.aload X199.here hx rfl (hb hby at_104) rfl rfl k) ?_
      show Go _ _ _ _ (T199.setTop (mkF m 106 #[iv p0, iv p1, iv p2, iv p3, iv p4, iv p5, iv sel, rv kd, iv 4, rv b193, .unset, .unset, .unset] [(.ref b193)]))
      refine go_st (fun t k => XS.iconst X199.here hx rfl (hb hby at_106) k) ?_
      show Go _ _ _ _ (T199.setTop (mkF m 107 #[iv p0, iv p1, iv p2, iv p3, iv p4, iv p5, iv sel, rv kd, iv 4, rv b193, .unset, .unset, .unset] [(.int 2), (.ref b193)]))
      refine go_st (fun t k => XS.iload X199.here hx rfl (hb hby at_107) rfl k) ?_
      show Go _ _ _ _ (T199.setTop (mkF m 109 #[iv p0, iv p1, iv p2, iv p3, iv p4, iv p5, iv sel, rv kd, iv 4, rv b193, .unset, .unset, .unset] [(.int p4), (.int 2), (.ref b193)]))
      refine go_st (fun t k => XS.sipush X199.here hx rfl (hb hby at_109) k) ?_
      show Go _ _ _ _ (T199.setTop (mkF m 112 #[iv p0, iv p1, iv p2, iv p3, iv p4, iv p5, iv sel, rv kd, iv 4, rv b193, .unset, .unset, .unset] [(.int 255), (.int p4), (.int 2), (.ref b193)]))
      refine go_st (fun t k => XS.iand X199.here hx rfl (hb hby at_112) rfl k) ?_
      show Go _ _ _ _ (T199.setTop (mkF m 113 #[iv p0, iv p1, iv p2, iv p3, iv p4, iv p5, iv sel, rv kd, iv 4, rv b193, .unset, .unset, .unset] [(.int (p4 &&& (255 : Int32))), (.int 2), (.ref b193)]))
      refine go_st (fun t k => XS.i2c X199.here hx rfl (hb hby at_113) rfl k) ?_
      show Go _ _ _ _ (T199.setTop (mkF m 114 #[iv p0, iv p1, iv p2, iv p3, iv p4, iv p5, iv sel, rv kd, iv 4, rv b193, .unset, .unset, .unset] [(.int (((p4 &&& (255 : Int32))).toUInt32.toUInt16.toUInt32.toInt32)), (.int 2), (.ref b193)]))
      obtain ⟨zc202, zA202, zq202, zS202, zN202, zH202, zG202⟩ := id f201
      have hin202 : ¬ ((2 : Int32) < 0 ∨ zc202.slots.size ≤ ((2 : Int32)).toNatClampNeg) := inb_of zS202 ⟨by decide, by decide⟩
      obtain ⟨T202, h202, X202, e202, W202, st202⟩ := stC X199 hx hZ e199 zA202 (j := (2 : Int32)) hin202 (g := (mkF m 114 #[iv p0, iv p1, iv p2, iv p3, iv p4, iv p5, iv sel, rv kd, iv 4, rv b193, .unset, .unset, .unset] [(.int (((p4 &&& (255 : Int32))).toUInt32.toUInt16.toUInt32.toInt32)), (.int 2), (.ref b193)])) rfl rfl (hb hby at_114)
      have N202 := Fr.snoc X202 N199 g_b193
      have C203 : CHr Z consts_1 s.vm h0 s.vm h202 := CHr.trans C200 (CHr.wr W202 (Safe.arv hZ.alike f201 (by decide)) C200.1)
      have f204 : Arv Z h202 b193 kc193 .char (4 : Int32) [(.int (nar .char (((p2 &&& (255 : Int32))).toUInt32.toUInt16.toUInt32.toInt32))), (.int (nar .char (((p3 &&& (255 : Int32))).toUInt32.toUInt16.toUInt32.toInt32))), (.int (nar .char (((p4 &&& (255 : Int32))).toUInt32.toUInt16.toUInt32.toInt32))), (.int 0)] (.int 0) := Arv.set zA202 zq202 zS202 zN202 zH202 zG202 (fits_nar_char _) W202 2 rfl (Nat.le_of_ble_eq_true rfl)
      refine go_st (fun t k => st202 t k) ?_
      show Go _ _ _ _ (T202.setTop (mkF m 115 #[iv p0, iv p1, iv p2, iv p3, iv p4, iv p5, iv sel, rv kd, iv 4, rv b193, .unset, .unset, .unset] []))
      refine go_st (fun t k => XS.iload X202.here hx rfl (hb hby at_115) rfl k) ?_
      show Go _ _ _ _ (T202.setTop (mkF m 117 #[iv p0, iv p1, iv p2, iv p3, iv p4, iv p5, iv sel, rv kd, iv 4, rv b193, .unset, .unset, .unset] [(.int 4)]))
      refine go_st (fun t k => XS.iconst X202.here hx rfl (hb hby at_117) k) ?_
      show Go _ _ _ _ (T202.setTop (mkF m 118 #[iv p0, iv p1, iv p2, iv p3, iv p4, iv p5, iv sel, rv kd, iv 4, rv b193, .unset, .unset, .unset] [(.int 3), (.int 4)]))
      refine go_st (fun t k => XS.icmpNo X202.here hx rfl (hb hby at_118) rfl (tlt ((by decide) : (3 : Int32) < (4 : Int32))).2.2.2 k) ?_
      show Go _ _ _ _ (T202.setTop (mkF m 121 #[iv p0, iv p1, iv p2, iv p3, iv p4, iv p5, iv sel, rv kd, iv 4, rv b193, .unset, .unset, .unset] []))
      refine go_st (fun t k => XS.aload X202.here hx rfl (hb hby at_121) rfl rfl k) ?_
      show Go _ _ _ _ (T202.setTop (mkF m 123 #[iv p0, iv p1, iv p2, iv p3, iv p4, iv p5, iv sel, rv kd, iv 4, rv b193, .unset, .unset, .unset] [(.ref b193)]))
      refine go_st (fun t k => XS.iconst X202.here hx rfl (hb hby at_123) k) ?_
      show Go _ _ _ _ (T202.setTop (mkF m 124 #[iv p0, iv p1, iv p2, iv p3, iv p4, iv p5, iv sel, rv kd, iv 4, rv b193, .unset, .unset, .unset] [(.int 3), (.ref b193)]))
      refine go_st (fun t k => XS.iload X202.here hx rfl (hb hby at_124) rfl k) ?_
      show Go _ _ _ _ (T202.setTop (mkF m 126 #[iv p0, iv p1, iv p2, iv p3, iv p4, iv p5, iv sel, rv kd, iv 4, rv b193, .unset, .unset, .unset] [(.int p5), (.int 3), (.ref b193)]))
      refine go_st (fun t k => XS.sipush X202.here hx rfl (hb hby at_126) k) ?_
      show Go _ _ _ _ (T202.setTop (mkF m 129 #[iv p0, iv p1, iv p2, iv p3, iv p4, iv p5, iv sel, rv kd, iv 4, rv b193, .unset, .unset, .unset] [(.int 255), (.int p5), (.int 3), (.ref b193)]))
      refine go_st (fun t k => XS.iand X202.here hx rfl (hb hby at_129) rfl k) ?_
      show Go _ _ _ _ (T202.setTop (mkF m 130 #[iv p0, iv p1, iv p2, iv p3, iv p4, iv p5, iv sel, rv kd, iv 4, rv b193, .unset, .unset, .unset] [(.int (p5 &&& (255 : Int32))), (.int 3), (.ref b193)]))
      refine go_st (fun t k => XS.i2c X202.here hx rfl (hb hby at_130) rfl k) ?_
      show Go _ _ _ _ (T202.setTop (mkF m 131 #[iv p0, iv p1, iv p2, iv p3, iv p4, iv p5, iv sel, rv kd, iv 4, rv b193, .unset, .unset, .unset] [(.int (((p5 &&& (255 : Int32))).toUInt32.toUInt16.toUInt32.toInt32)), (.int 3), (.ref b193)]))
      obtain ⟨zc205, zA205, zq205, zS205, zN205, zH205, zG205⟩ := id f204
      have hin205 : ¬ ((3 : Int32) < 0 ∨ zc205.slots.size ≤ ((3 : Int32)).toNatClampNeg) := inb_of zS205 ⟨by decide, by decide⟩
      obtain ⟨T205, h205, X205, e205, W205, st205⟩ := stC X202 hx hZ e202 zA205 (j := (3 : Int32)) hin205 (g := (mkF m 131 #[iv p0, iv p1, iv p2, iv p3, iv p4, iv p5, iv sel, rv kd, iv 4, rv b193, .unset, .unset, .unset] [(.int (((p5 &&& (255 : Int32))).toUInt32.toUInt16.toUInt32.toInt32)), (.int 3), (.ref b193)])) rfl rfl (hb hby at_131)
      have N205 := Fr.snoc X205 N202 g_b193
      have C206 : CHr Z consts_1 s.vm h0 s.vm h205 := CHr.trans C203 (CHr.wr W205 (Safe.arv hZ.alike f204 (by decide)) C203.1)
      have f207 : Arv Z h205 b193 kc193 .char (4 : Int32) [(.int (nar .char (((p2 &&& (255 : Int32))).toUInt32.toUInt16.toUInt32.toInt32))), (.int (nar .char (((p3 &&& (255 : Int32))).toUInt32.toUInt16.toUInt32.toInt32))), (.int (nar .char (((p4 &&& (255 : Int32))).toUInt32.toUInt16.toUInt32.toInt32))), (.int (nar .char (((p5 &&& (255 : Int32))).toUInt32.toUInt16.toUInt32.toInt32)))] (.int 0) := Arv.set zA205 zq205 zS205 zN205 zH205 zG205 (fits_nar_char _) W205 3 rfl (Nat.le_of_ble_eq_true rfl)
      refine go_st (fun t k => st205 t k) ?_
      show Go _ _ _ _ (T205.setTop (mkF m 132 #[iv p0, iv p1, iv p2, iv p3, iv p4, iv p5, iv sel, rv kd, iv 4, rv b193, .unset, .unset, .unset] []))
      obtain ⟨T208, h208, X208, e208, E208, A208, D208, -, st208⟩ := newO X205 hx hZ hown (w8 hw) (w9 hw) (w10 hw) e205 (g := (mkF m 132 #[iv p0, iv p1, iv p2, iv p3, iv p4, iv p5, iv sel, rv kd, iv 4, rv b193, .unset, .unset, .unset] [])) rfl (hb hby at_132) (by decide) (by decide)
      obtain ⟨b208, gq208⟩ : ∃ z, z = h205.size := ⟨_, rfl⟩
      rw [← gq208] at A208 D208 st208
      have sn208 : Safe Z consts_1 s.vm h205 b208 := Safe.new (Nat.le_of_eq gq208.symm)
      have C209 : CHr Z consts_1 s.vm h0 s.vm h208 := CHr.trans C206 (CHr.ext E208 C206.1)
      have sf210 : Safe Z consts_1 s.vm h208 b208 := Safe.ext E208 C206.1 sn208
      have f211 : Fld Z h208 b208 "java/lang/String" "coder" "B" (.int 0) := D208 (Or.inr (w34 hw)) (ty := .byte) (by decide)
      have f212 : Fld Z h208 b208 "java/lang/String" "value" "[B" .null := D208 (Or.inr (w36 hw)) (ty := (.array .byte)) (by decide)
      refine go_st (fun t k => st208 t k) ?_
      show Go _ _ _ _ (T208.setTop (mkF m 135 #[iv p0, iv p1, iv p2, iv p3, iv p4, iv p5, iv sel, rv kd, iv 4, rv b193, .unset, .unset, .unset] [(.ref b208)]))
      refine go_st (fun t k => XS.dup X208.here hx rfl (hb hby at_135) rfl rfl k) ?_
      show Go _ _ _ _ (T208.setTop (mkF m 136 #[iv p0, iv p1, iv p2, iv p3, iv p4, iv p5, iv sel, rv kd, iv 4, rv b193, .unset, .unset, .unset] [(.ref b208), (.ref b208)]))
      refine go_st (fun t k => XS.aload X208.here hx rfl (hb hby at_136) rfl rfl k) ?_
      show Go _ _ _ _ (T208.setTop (mkF m 138 #[iv p0, iv p1, iv p2, iv p3, iv p4, iv p5, iv sel, rv kd, iv 4, rv b193, .unset, .unset, .unset] [(.ref b193), (.ref b208), (.ref b208)]))
      have f213 : Arv Z h208 b193 kc193 .char (4 : Int32) [(.int (nar .char (((p2 &&& (255 : Int32))).toUInt32.toUInt16.toUInt32.toInt32))), (.int (nar .char (((p3 &&& (255 : Int32))).toUInt32.toUInt16.toUInt32.toInt32))), (.int (nar .char (((p4 &&& (255 : Int32))).toUInt32.toUInt16.toUInt32.toInt32))), (.int (nar .char (((p5 &&& (255 : Int32))).toUInt32.toUInt16.toUInt32.toInt32)))] (.int 0) := (f207.ext E208)
      have oe214 : Old Z n0 h193 := (Old.ext O0 E193)
      have oe215 : Old Z n0 h196 := (Old.wr oe214 W196 g_b193)
      have oe216 : Old Z n0 h199 := (Old.wr oe215 W199 g_b193)
      have oe217 : Old Z n0 h202 := (Old.wr oe216 W202 g_b193)
      have oe218 : Old Z n0 h205 := (Old.wr oe217 W205 g_b193)
      have oe219 : Old Z n0 h208 := (Old.ext oe218 E208)
      have sz220 : h0.size ≤ h196.size := (Nat.le_trans E193.1 (Nat.le_of_eq W196.size.symm))
      have sz221 : h0.size ≤ h199.size := (Nat.le_trans sz220 (Nat.le_of_eq W199.size.symm))
      have sz222 : h0.size ≤ h202.size := (Nat.le_trans sz221 (Nat.le_of_eq W202.size.symm))
      have sz223 : h0.size ≤ h205.size := (Nat.le_trans sz222 (Nat.le_of_eq W205.size.symm))
      have g_b208 : n0 ≤ b208 := Nat.le_trans (Nat.le_trans Z0 sz223) (Nat.le_of_eq gq208.symm)
      have sz224 : h0.size ≤ h208.size := (Nat.le_trans sz223 E208.1)
      obtain ⟨_, _, ⟨T225, L225, kk225, nn225⟩, -, X225, ⟨Lc225, hQ225, lq225, yq225, zq225⟩, st225⟩ := X208.specialBack hx (y := (⟨"java/lang/String", "<init>", "([C)V"⟩ : MethodName)) rfl hown (mvT hZ (w11 hw)) (mvT hZ (w12 hw)) (mvT hZ (w13 hw)) (by decide) (StrChars.Road.backV (W := 1) hZ (words_in str_words hw) (kI := 4) (w9 hw) (cs := ([(nar .char (((p2 &&& (255 : Int32))).toUInt32.toUInt16.toUInt32.toInt32)), (nar .char (((p3 &&& (255 : Int32))).toUInt32.toUInt16.toUInt32.toInt32)), (nar .char (((p4 &&& (255 : Int32))).toUInt32.toUInt16.toUInt32.toInt32)), (nar .char (((p5 &&& (255 : Int32))).toUInt32.toUInt16.toUInt32.toInt32))] : List Int32)) (bs := ([(nar .char (((p2 &&& (255 : Int32))).toUInt32.toUInt16.toUInt32.toInt32)), (nar .char (((p3 &&& (255 : Int32))).toUInt32.toUInt16.toUInt32.toInt32)), (nar .char (((p4 &&& (255 : Int32))).toUInt32.toUInt16.toUInt32.toInt32)), (nar .char (((p5 &&& (255 : Int32))).toUInt32.toUInt16.toUInt32.toInt32))] : List Int32).map (fun c => c.toInt8.toInt32)) (n := 4) g_b208 (Nat.le_trans Z0 sz224) A208 f212 f211 f213 (Sta.ext oe219.2 CS) CSn rfl rfl (by decide) (by decide) (chars_cons (and255_chars _) (chars_cons (and255_chars _) (chars_cons (and255_chars _) (chars_cons (and255_chars _) chars_nil)))) rfl (by decide) (by decide)) (g := (mkF m 138 #[iv p0, iv p1, iv p2, iv p3, iv p4, iv p5, iv sel, rv kd, iv 4, rv b193, .unset, .unset, .unset] [(.ref b193), (.ref b208), (.ref b208)])) rfl (by rw [hml]; rfl) (Steps.refl _) (a := b208) (argsL := [(.ref b193)]) (rest := [(.ref b208)]) (lenOf pd_12 rfl) rfl (by show 2 * 0 + _ ≤ _; exact Nat.le_of_eq rfl) (hb hby at_138) (fun _ _ => ⟨rfl, e208, (by decide : 2 + 1 ≤ _), (by decide : 8 + 4 ≤ _)⟩)
      dsimp only [Pt.U, Pt.locs, Pt.cells, Pt.slots] at X225 lq225 yq225 zq225 st225 hQ225
      subst lq225 yq225 zq225
      obtain ⟨h225, e225⟩ : ∃ z, T225.heap = z := ⟨_, rfl⟩
      rw [e225] at hQ225
      obtain ⟨rfl, N225q, K225, Es225, Cs225, t225, kb225, gt225, lt225, nt225, Vs225, As225⟩ := hQ225
      have N225 := Fr.app N205 N225q
      have C226 : CHr Z consts_1 s.vm h0 s.vm h225 := CHr.trans C209 (CHr.keep K225 (sfS sf210 sf0) C209.1)
      have sf227 : Safe Z consts_1 s.vm h225 b208 := (Safe.keep K225 (sfS sf210 sf0) C209.1 sf210)
      refine go_tr st225 ?_
      show Go _ _ _ _ (T225.setTop (mkF m 141 #[iv p0, iv p1, iv p2, iv p3, iv p4, iv p5, iv sel, rv kd, iv 4, rv b193, .unset, .unset, .unset] [(.ref b208)]))
      have sS228 : Str Z h225 b208 t225 ([(nar .char (((p2 &&& (255 : Int32))).toUInt32.toUInt16.toUInt32.toInt32)), (nar .char (((p3 &&& (255 : Int32))).toUInt32.toUInt16.toUInt32.toInt32)), (nar .char (((p4 &&& (255 : Int32))).toUInt32.toUInt16.toUInt32.toInt32)), (nar .char (((p5 &&& (255 : Int32))).toUInt32.toUInt16.toUInt32.toInt32))] : List Int32) := Str.of (n := 4) Es225 Vs225 Cs225 As225 rfl (by decide) (chars_cons (and255_chars _) (chars_cons (and255_chars _) (chars_cons (and255_chars _) (chars_cons (and255_chars _) chars_nil))))
      refine go_st (fun t k => XS.astore X225.here hx rfl (hb hby at_141) rfl rfl (l' := #[iv p0, iv p1, iv p2, iv p3, iv p4, iv p5, iv sel, rv kd, iv 4, rv b193, rv b208, .unset, .unset]) rfl k) ?_
      show Go _ _ _ _ (T225.setTop (mkF m 143 #[iv p0, iv p1, iv p2, iv p3, iv p4, iv p5, iv sel, rv kd, iv 4, rv b193, rv b208, .unset, .unset] []))
      have xe229 : Ext h0 h193 := (ext_tr (ext_rfl h0) E193)
      have xe230 : Ext h0 h196 := (ext_wr xe229 W196 (Nat.le_of_eq gq193.symm))
      have xe231 : Ext h0 h199 := (ext_wr xe230 W199 (Nat.le_of_eq gq193.symm))
      have xe232 : Ext h0 h202 := (ext_wr xe231 W202 (Nat.le_of_eq gq193.symm))
      have xe233 : Ext h0 h205 := (ext_wr xe232 W205 (Nat.le_of_eq gq193.symm))
      have xe234 : Ext h0 h208 := (ext_tr xe233 E208)
      have xe235 : Ext h0 h225 := (ext_keep xe234 K225 (allS (Nat.le_trans sz223 (Nat.le_of_eq gq208.symm)) all0))
      have sz236 : h0.size ≤ h225.size := (Nat.le_trans sz224 K225.1)
      exact j3 _ _ _ _ _ (4 : Int32) b193 b208 t225 ([(nar .char (((p2 &&& (255 : Int32))).toUInt32.toUInt16.toUInt32.toInt32)), (nar .char (((p3 &&& (255 : Int32))).toUInt32.toUInt16.toUInt32.toInt32)), (nar .char (((p4 &&& (255 : Int32))).toUInt32.toUInt16.toUInt32.toInt32)), (nar .char (((p5 &&& (255 : Int32))).toUInt32.toUInt16.toUInt32.toInt32))] : List Int32) (X225.mono (by decide) (by decide)) N225 e225 xe235 hS0 (Nat.le_trans hk0 sz236) hZ hown C226 sS228
  show Go _ _ _ _ (s₁.setTop (mkF m 7 #[iv p0, iv p1, iv p2, iv p3, iv p4, iv p5, iv sel, .unset, .unset, .unset, .unset, .unset, .unset] [(.int sel)]))
  by_cases hc237 : sel = (0 : Int32)
  · skip
    refine go_st (fun t k => XS.ifNo X0.here hx rfl (hb hby at_7) rfl ((if0 _ _).trans (teq (hc237 : sel = (0 : Int32))).2) k) ?_
    show Go _ _ _ _ (s₁.setTop (mkF m 10 #[iv p0, iv p1, iv p2, iv p3, iv p4, iv p5, iv sel, .unset, .unset, .unset, .unset, .unset, .unset] []))
    obtain ⟨T238, X238, e238, st238⟩ := getS2 X0 hx hZ hown (host := "") (Or.inl (w0 hw)) Via.refl e0 (Sta.ext O0.2 GSS) (g := (mkF m 10 #[iv p0, iv p1, iv p2, iv p3, iv p4, iv p5, iv sel, .unset, .unset, .unset, .unset, .unset, .unset] [])) rfl (hb hby at_10)
    refine go_st (fun t k => st238 t k) ?_
    show Go _ _ _ _ (T238.setTop (mkF m 13 #[iv p0, iv p1, iv p2, iv p3, iv p4, iv p5, iv sel, .unset, .unset, .unset, .unset, .unset, .unset] [(.ref gS)]))
    refine go_st (fun t k => XS.astore X238.here hx rfl (hb hby at_13) rfl rfl (l' := #[iv p0, iv p1, iv p2, iv p3, iv p4, iv p5, iv sel, rv gS, .unset, .unset, .unset, .unset, .unset]) rfl k) ?_
    show Go _ _ _ _ (T238.setTop (mkF m 15 #[iv p0, iv p1, iv p2, iv p3, iv p4, iv p5, iv sel, rv gS, .unset, .unset, .unset, .unset, .unset] []))
    refine go_st (fun t k => XS.goto X238.here hx rfl (pc0 := 15) (pc' := 51) rfl (hb hby at_15) (by decide) (by decide) k) ?_
    show Go _ _ _ _ (T238.setTop (mkF m 51 #[iv p0, iv p1, iv p2, iv p3, iv p4, iv p5, iv sel, rv gS, .unset, .unset, .unset, .unset, .unset] []))
    exact j1 _ _ gS X238 N0 e238 nSO nSA ⟨fun _ => rfl, fun _ => hc237⟩ ⟨fun q => absurd (hc237.symm.trans q) (by decide), fun q => absurd q nSB⟩
  · skip
    refine go_st (fun t k => XS.ifYes X0.here hx rfl (pc0 := 7) (pc' := 18) rfl (hb hby at_7) rfl ((if0 _ _).trans (feq (hc237 : ¬ (sel = (0 : Int32)))).2) (by decide) (by decide) k) ?_
    show Go _ _ _ _ (s₁.setTop (mkF m 18 #[iv p0, iv p1, iv p2, iv p3, iv p4, iv p5, iv sel, .unset, .unset, .unset, .unset, .unset, .unset] []))
    refine go_st (fun t k => XS.iload X0.here hx rfl (hb hby at_18) rfl k) ?_
    show Go _ _ _ _ (s₁.setTop (mkF m 20 #[iv p0, iv p1, iv p2, iv p3, iv p4, iv p5, iv sel, .unset, .unset, .unset, .unset, .unset, .unset] [(.int sel)]))
    refine go_st (fun t k => XS.iconst X0.here hx rfl (hb hby at_20) k) ?_
    show Go _ _ _ _ (s₁.setTop (mkF m 21 #[iv p0, iv p1, iv p2, iv p3, iv p4, iv p5, iv sel, .unset, .unset, .unset, .unset, .unset, .unset] [(.int 1), (.int sel)]))
    by_cases hc239 : sel = (1 : Int32)
    · skip
      refine go_st (fun t k => XS.icmpNo X0.here hx rfl (hb hby at_21) rfl (teq (hc239 : sel = (1 : Int32))).2 k) ?_
      show Go _ _ _ _ (s₁.setTop (mkF m 24 #[iv p0, iv p1, iv p2, iv p3, iv p4, iv p5, iv sel, .unset, .unset, .unset, .unset, .unset, .unset] []))
      obtain ⟨T240, X240, e240, st240⟩ := getS2 X0 hx hZ hown (host := "") (Or.inl (w109 hw)) Via.refl e0 (Sta.ext O0.2 GSN) (g := (mkF m 24 #[iv p0, iv p1, iv p2, iv p3, iv p4, iv p5, iv sel, .unset, .unset, .unset, .unset, .unset, .unset] [])) rfl (hb hby at_24)
      refine go_st (fun t k => st240 t k) ?_
      show Go _ _ _ _ (T240.setTop (mkF m 27 #[iv p0, iv p1, iv p2, iv p3, iv p4, iv p5, iv sel, .unset, .unset, .unset, .unset, .unset, .unset] [(.ref gN)]))
      refine go_st (fun t k => XS.astore X240.here hx rfl (hb hby at_27) rfl rfl (l' := #[iv p0, iv p1, iv p2, iv p3, iv p4, iv p5, iv sel, rv gN, .unset, .unset, .unset, .unset, .unset]) rfl k) ?_
      show Go _ _ _ _ (T240.setTop (mkF m 29 #[iv p0, iv p1, iv p2, iv p3, iv p4, iv p5, iv sel, rv gN, .unset, .unset, .unset, .unset, .unset] []))
      refine go_st (fun t k => XS.goto X240.here hx rfl (pc0 := 29) (pc' := 51) rfl (hb hby at_29) (by decide) (by decide) k) ?_
      show Go _ _ _ _ (T240.setTop (mkF m 51 #[iv p0, iv p1, iv p2, iv p3, iv p4, iv p5, iv sel, rv gN, .unset, .unset, .unset, .unset, .unset] []))
      exact j1 _ _ gN X240 N0 e240 nNO nNA ⟨fun q => absurd q hc237, fun q => absurd q nNS⟩ ⟨fun q => absurd (hc239.symm.trans q) (by decide), fun q => absurd q nNB⟩
    · skip
      refine go_st (fun t k => XS.icmpYes X0.here hx rfl (pc0 := 21) (pc' := 32) rfl (hb hby at_21) rfl (feq (hc239 : ¬ (sel = (1 : Int32)))).2 (by decide) (by decide) k) ?_
      show Go _ _ _ _ (s₁.setTop (mkF m 32 #[iv p0, iv p1, iv p2, iv p3, iv p4, iv p5, iv sel, .unset, .unset, .unset, .unset, .unset, .unset] []))
      refine go_st (fun t k => XS.iload X0.here hx rfl (hb hby at_32) rfl k) ?_
      show Go _ _ _ _ (s₁.setTop (mkF m 34 #[iv p0, iv p1, iv p2, iv p3, iv p4, iv p5, iv sel, .unset, .unset, .unset, .unset, .unset, .unset] [(.int sel)]))
      refine go_st (fun t k => XS.iconst X0.here hx rfl (hb hby at_34) k) ?_
      show Go _ _ _ _ (s₁.setTop (mkF m 35 #[iv p0, iv p1, iv p2, iv p3, iv p4, iv p5, iv sel, .unset, .unset, .unset, .unset, .unset, .unset] [(.int 2), (.int sel)]))
      by_cases hc241 : sel = (2 : Int32)
      · skip
        refine go_st (fun t k => XS.icmpNo X0.here hx rfl (hb hby at_35) rfl (teq (hc241 : sel = (2 : Int32))).2 k) ?_
        show Go _ _ _ _ (s₁.setTop (mkF m 38 #[iv p0, iv p1, iv p2, iv p3, iv p4, iv p5, iv sel, .unset, .unset, .unset, .unset, .unset, .unset] []))
        obtain ⟨T242, X242, e242, st242⟩ := getS2 X0 hx hZ hown (host := "") (Or.inl (w113 hw)) Via.refl e0 (Sta.ext O0.2 GSB) (g := (mkF m 38 #[iv p0, iv p1, iv p2, iv p3, iv p4, iv p5, iv sel, .unset, .unset, .unset, .unset, .unset, .unset] [])) rfl (hb hby at_38)
        refine go_st (fun t k => st242 t k) ?_
        show Go _ _ _ _ (T242.setTop (mkF m 41 #[iv p0, iv p1, iv p2, iv p3, iv p4, iv p5, iv sel, .unset, .unset, .unset, .unset, .unset, .unset] [(.ref gB)]))
        refine go_st (fun t k => XS.astore X242.here hx rfl (hb hby at_41) rfl rfl (l' := #[iv p0, iv p1, iv p2, iv p3, iv p4, iv p5, iv sel, rv gB, .unset, .unset, .unset, .unset, .unset]) rfl k) ?_
        show Go _ _ _ _ (T242.setTop (mkF m 43 #[iv p0, iv p1, iv p2, iv p3, iv p4, iv p5, iv sel, rv gB, .unset, .unset, .unset, .unset, .unset] []))
        refine go_st (fun t k => XS.goto X242.here hx rfl (pc0 := 43) (pc' := 51) rfl (hb hby at_43) (by decide) (by decide) k) ?_
        show Go _ _ _ _ (T242.setTop (mkF m 51 #[iv p0, iv p1, iv p2, iv p3, iv p4, iv p5, iv sel, rv gB, .unset, .unset, .unset, .unset, .unset] []))
        exact j1 _ _ gB X242 N0 e242 nBO nBA ⟨fun q => absurd q hc237, fun q => absurd q nBS⟩ ⟨fun _ => rfl, fun _ => hc241⟩
      · skip
        refine go_st (fun t k => XS.icmpYes X0.here hx rfl (pc0 := 35) (pc' := 46) rfl (hb hby at_35) rfl (feq (hc241 : ¬ (sel = (2 : Int32)))).2 (by decide) (by decide) k) ?_
        show Go _ _ _ _ (s₁.setTop (mkF m 46 #[iv p0, iv p1, iv p2, iv p3, iv p4, iv p5, iv sel, .unset, .unset, .unset, .unset, .unset, .unset] []))
        obtain ⟨T243, X243, e243, st243⟩ := getS2 X0 hx hZ hown (host := "") (Or.inl (w111 hw)) Via.refl e0 (Sta.ext O0.2 GSL) (g := (mkF m 46 #[iv p0, iv p1, iv p2, iv p3, iv p4, iv p5, iv sel, .unset, .unset, .unset, .unset, .unset, .unset] [])) rfl (hb hby at_46)
        refine go_st (fun t k => st243 t k) ?_
        show Go _ _ _ _ (T243.setTop (mkF m 49 #[iv p0, iv p1, iv p2, iv p3, iv p4, iv p5, iv sel, .unset, .unset, .unset, .unset, .unset, .unset] [(.ref gL)]))
        refine go_st (fun t k => XS.astore X243.here hx rfl (hb hby at_49) rfl rfl (l' := #[iv p0, iv p1, iv p2, iv p3, iv p4, iv p5, iv sel, rv gL, .unset, .unset, .unset, .unset, .unset]) rfl k) ?_
        show Go _ _ _ _ (T243.setTop (mkF m 51 #[iv p0, iv p1, iv p2, iv p3, iv p4, iv p5, iv sel, rv gL, .unset, .unset, .unset, .unset, .unset] []))
        exact j1 _ _ gL X243 N0 e243 nLO nLA ⟨fun q => absurd q hc237, fun q => absurd q nLS⟩ ⟨fun q => absurd q hc241, fun q => absurd q nLB⟩
set_option maxRecDepth 65536 in
set_option maxHeartbeats 40000000 in
theorem comes_1 {Post : Tables → Env → Array Value → State → Outcome → State → Prop} (hpost : ∀ tb e args s v u, (limb_1_1.after args s (.returned v) u = true ∧ limb_1_2.after args s (.returned v) u = true ∧ True) → ReturnedEndW s (.returned v) u (Jvm.fieldLocs frame_1_writes args s ++ Jvm.arrayLocs frame_1_arrays args s ++ Jvm.staticLocs frame_1_statics s) 24 3200 → Post tb e args s (.returned v) u) :
    ArmFor flags0 classFile x code maxLocals ret World_1 tables_1 room_1 Calls_1 rest_1 Pre_1 Post := by
  intro l hfl _ _ p e ha hc hk s m args below hf hA hF happ hP
  obtain ⟨hcalls, hrest, hpre⟩ := hP
  obtain ⟨-, -, -, hnamed, -, -, -, hat⟩ := (Spec.applies_iff hf).mp happ
  obtain ⟨hg, hn⟩ := and_e (Cond.before_iff.mp (show (Jvm.Cond.and given_1 narrow_1).before args s = true from hpre))
  obtain ⟨hcnt, ha0⟩ := and_e hg
  obtain ⟨gi0, ha1⟩ := and_e ha0
  obtain ⟨gi1, ha2⟩ := and_e ha1
  obtain ⟨gi2, ha3⟩ := and_e ha2
  obtain ⟨gi3, ha4⟩ := and_e ha3
  obtain ⟨gi4, ha5⟩ := and_e ha4
  have gi5 := ha5
  obtain ⟨w0_, w1_, w2_, w3_, w4_, w5_, rfl⟩ : ∃ w0_ w1_ w2_ w3_ w4_ w5_ : Value, args = #[w0_, w1_, w2_, w3_, w4_, w5_] := by
    have hs : args.size = 6 := by simpa [Cond.value, given_1] using hcnt
    obtain ⟨L⟩ := args
    match L, hs with
    | [w0_, w1_, w2_, w3_, w4_, w5_], _ => exact ⟨w0_, w1_, w2_, w3_, w4_, w5_, rfl⟩
  have hw := fun d (hd : d ∈ tables_1) => atoms_spec (ws := Jvm.Cond.code x code maxLocals ret :: tables_1) hat d (List.mem_cons_of_mem _ hd)
  have hfit : Fit s := fun {y c} hc i hi => by
    obtain ⟨ha, rfl⟩ := Array.getElem?_eq_some_iff.mp hc
    have q := List.all_eq_true.mp ((Array.all_eq_true_iff_forall_mem.mp hF) _ (Array.getElem_mem ha)) i (List.mem_range.mpr hi)
    simpa [Array.getElem?_eq_getElem hi] using q
  obtain ⟨hsets, hown0⟩ := atoms_of _ (rest_1_c_eq ▸ (show rest_1_c.before _ s = true from hrest))
  obtain ⟨i0, ei0⟩ := is_v gi0
  obtain rfl : w0_ = (.int i0) := Option.some.inj ei0
  obtain ⟨i1, ei1⟩ := is_v gi1
  obtain rfl : w1_ = (.int i1) := Option.some.inj ei1
  obtain ⟨i2, ei2⟩ := is_v gi2
  obtain rfl : w2_ = (.int i2) := Option.some.inj ei2
  obtain ⟨i3, ei3⟩ := is_v gi3
  obtain rfl : w3_ = (.int i3) := Option.some.inj ei3
  obtain ⟨i4, ei4⟩ := is_v gi4
  obtain rfl : w4_ = (.int i4) := Option.some.inj ei4
  obtain ⟨i5, ei5⟩ := is_v gi5
  obtain rfl : w5_ = (.int i5) := Option.some.inj ei5
  have n3 := not_v (Cond.before_iff.mp (hsets _ (List.mem_of_getElem? (i := 2) rfl)))
  obtain ⟨G1, e6⟩ := is_v (Cond.before_iff.mp (hsets _ (List.mem_of_getElem? (i := 1) rfl)))
  have CS : Sta s s.heap "java/lang/String" "COMPACT_STRINGS" "Z" (.int G1) := Sta.start e6 (Or.inl (hsets _ (List.mem_of_getElem? (i := 0) rfl)))
  have CSn : ¬ (G1 = (0 : Int32)) := gotF (Cond.eq_ints e6 (Term.int_eval (0))) n3
  obtain ⟨hx0, hy0⟩ := and_e hn
  obtain ⟨gS, egS⟩ := exa_v hx0
  have GSS : Sta s s.heap "com/example/nudge/nudge/tree/Node$Kind" "STRING" "Lcom/example/nudge/nudge/tree/Node$Kind;" (.ref gS) := Sta.start egS (Or.inr ⟨(w1 hw), (w2 hw)⟩)
  obtain ⟨hx1, hy1⟩ := and_e hy0
  obtain ⟨gO, egO⟩ := exa_v hx1
  have GSO : Sta s s.heap "com/example/nudge/nudge/tree/Node$Kind" "OBJECT" "Lcom/example/nudge/nudge/tree/Node$Kind;" (.ref gO) := Sta.start egO (Or.inr ⟨(w1 hw), (w42 hw)⟩)
  obtain ⟨hx2, hy2⟩ := and_e hy1
  have FOS : Fld s s.heap gS "java/lang/Enum" "ordinal" "I" (.int (2 : Int32)) := Fld.start (by rw [← fld_at egS]; exact Cond.eq_int (Cond.before_iff.mpr hx2) rfl)
  obtain ⟨hx3, hy3⟩ := and_e hy2
  have FOO : Fld s s.heap gO "java/lang/Enum" "ordinal" "I" (.int (0 : Int32)) := Fld.start (by rw [← fld_at egO]; exact Cond.eq_int (Cond.before_iff.mpr hx3) rfl)
  obtain ⟨hx4, hy4⟩ := and_e hy3
  obtain ⟨gA, egA⟩ := exa_v hx4
  have GSA : Sta s s.heap "com/example/nudge/nudge/tree/Node$Kind" "ARRAY" "Lcom/example/nudge/nudge/tree/Node$Kind;" (.ref gA) := Sta.start egA (Or.inr ⟨(w1 hw), (w44 hw)⟩)
  obtain ⟨hx5, hy5⟩ := and_e hy4
  have FOA : Fld s s.heap gA "java/lang/Enum" "ordinal" "I" (.int (1 : Int32)) := Fld.start (by rw [← fld_at egA]; exact Cond.eq_int (Cond.before_iff.mpr hx5) rfl)
  obtain ⟨hx6, hy6⟩ := and_e hy5
  obtain ⟨nn, ea_nn⟩ := arr_v hx6
  have ha_nn := hx6
  have AS_nn : Sta s s.heap "com/example/nudge/nudge/tree/Node" "NO_NAMES" "[Ljava/lang/String;" (.ref nn) := Sta.start ea_nn (Or.inr ⟨(w39 hw), (w48 hw)⟩)
  obtain ⟨hx7, hy7⟩ := and_e hy6
  obtain ⟨cn, An⟩ := Arr.start ea_nn ha_nn
  have ln0 := Cond.eq_int (Cond.before_iff.mpr hx7) rfl
  obtain ⟨sd, SA, hev, harrAt, -⟩ := Term.length_spec ln0
  have h31 := Jvm.Free.SBG.length_lt hev harrAt ln0
  have hsA : SA = cn := by have q := An.fin (Vm.Alike.refl _); rw [ea_nn] at hev; cases hev; exact Option.some.inj (harrAt.symm.trans q)
  subst hsA
  have ez : SA.slots.size.toInt32 = 0 := Value.int.inj (Option.some.inj ((len_f hev harrAt h31).symm.trans ln0))
  have VNN : Arv s s.heap nn SA.cls (.object "java/lang/String") (0 : Int32) [] .null := Arv.start hfit An h31 ez (by decide) rfl trivial
  obtain ⟨hx8, hy8⟩ := and_e hy7
  obtain ⟨nv, ea_nv⟩ := arr_v hx8
  have ha_nv := hx8
  have AS_nv : Sta s s.heap "com/example/nudge/nudge/tree/Node" "NO_VALUES" "[Lcom/example/nudge/nudge/tree/Node;" (.ref nv) := Sta.start ea_nv (Or.inr ⟨(w39 hw), (w50 hw)⟩)
  obtain ⟨hx9, hy9⟩ := and_e hy8
  obtain ⟨hx10, hy10⟩ := and_e hy9
  obtain ⟨np, ea_np⟩ := arr_v hx10
  have ha_np := hx10
  have AS_np : Sta s s.heap "com/example/nudge/nudge/tree/Node" "NO_PLACES" "[I" (.ref np) := Sta.start ea_np (Or.inr ⟨(w39 hw), (w52 hw)⟩)
  obtain ⟨hx11, hy11⟩ := and_e hy10
  obtain ⟨hx12, hy12⟩ := and_e hy11
  obtain ⟨gB, egB⟩ := exa_v hx12
  have GSB : Sta s s.heap "com/example/nudge/nudge/tree/Node$Kind" "BOOLEAN" "Lcom/example/nudge/nudge/tree/Node$Kind;" (.ref gB) := Sta.start egB (Or.inr ⟨(w1 hw), (w108 hw)⟩)
  obtain ⟨hx13, hy13⟩ := and_e hy12
  have FOB : Fld s s.heap gB "java/lang/Enum" "ordinal" "I" (.int (4 : Int32)) := Fld.start (by rw [← fld_at egB]; exact Cond.eq_int (Cond.before_iff.mpr hx13) rfl)
  obtain ⟨hx14, hy14⟩ := and_e hy13
  obtain ⟨gN, egN⟩ := exa_v hx14
  have GSN : Sta s s.heap "com/example/nudge/nudge/tree/Node$Kind" "NUMBER" "Lcom/example/nudge/nudge/tree/Node$Kind;" (.ref gN) := Sta.start egN (Or.inr ⟨(w1 hw), (w110 hw)⟩)
  obtain ⟨hx15, hy15⟩ := and_e hy14
  have FON : Fld s s.heap gN "java/lang/Enum" "ordinal" "I" (.int (3 : Int32)) := Fld.start (by rw [← fld_at egN]; exact Cond.eq_int (Cond.before_iff.mpr hx15) rfl)
  obtain ⟨hx16, hy16⟩ := and_e hy15
  obtain ⟨gL, egL⟩ := exa_v hx16
  have GSL : Sta s s.heap "com/example/nudge/nudge/tree/Node$Kind" "NULL" "Lcom/example/nudge/nudge/tree/Node$Kind;" (.ref gL) := Sta.start egL (Or.inr ⟨(w1 hw), (w112 hw)⟩)
  have FOL : Fld s s.heap gL "java/lang/Enum" "ordinal" "I" (.int (5 : Int32)) := Fld.start (by rw [← fld_at egL]; exact Cond.eq_int (Cond.before_iff.mpr hy16) rfl)
  have nSO : gS ≠ gO := Fld.ne FOS FOO (by decide)
  have nSA : gS ≠ gA := Fld.ne FOS FOA (by decide)
  have nNO : gN ≠ gO := Fld.ne FON FOO (by decide)
  have nNA : gN ≠ gA := Fld.ne FON FOA (by decide)
  have nBO : gB ≠ gO := Fld.ne FOB FOO (by decide)
  have nBA : gB ≠ gA := Fld.ne FOB FOA (by decide)
  have nLO : gL ≠ gO := Fld.ne FOL FOO (by decide)
  have nLA : gL ≠ gA := Fld.ne FOL FOA (by decide)
  have nNS : gN ≠ gS := Fld.ne FON FOS (by decide)
  have nBS : gB ≠ gS := Fld.ne FOB FOS (by decide)
  have nLS : gL ≠ gS := Fld.ne FOL FOS (by decide)
  have nSB : gS ≠ gB := Fld.ne FOS FOB (by decide)
  have nNB : gN ≠ gB := Fld.ne FON FOB (by decide)
  have nLB : gL ≠ gB := Fld.ne FOL FOB (by decide)
  obtain ⟨n, o, h1, h2, h3, _, L, rfl, ⟨rfl, N, -⟩, -, hq⟩ := rm_law l s _ hw tables_1 i0 i1 i2 i3 i4 i5 G1 gS gN gB gL gO gA nn nv np _ s.heap s.heap.size (Nat.le_refl _) CS CSn GSS GSN GSB GSL GSO GSA AS_nn AS_nv AS_np nSO nSA nNO nNA nBO nBA nLO nLA nNS nBS nLS nSB nNB nLB VNN (Old.start s) p e ha hc hk s m _ below hf ((Spec.applies_iff_loose hf).mp happ).1 ⟨rfl, State.Warmed39.refl s, rfl, CHv.start (hEL hw) hcalls.1 (hsets _ (List.mem_of_getElem? (i := 2) rfl)) (w26 hw) (w9 hw)⟩ trivial
  refine ⟨n, _, h1, h2, h3, hpost _ _ _ _ _ _ ⟨Cond.after_iff.mpr rfl, Cond.after_iff.mpr (eq_i res_at (Term.int_eval (1)) rfl), trivial⟩ ⟨hq.1, hq.2.1, hq.2.2.1, (hq.2.2.2.sift fun y hy => Or.inr (N y hy)).mono (by decide) (by decide)⟩⟩
theorem main_1_1 : Claimed_1_1 := comes_1 fun _ _ _ _ _ _ h hF => ⟨h.1, hF⟩
theorem main_1_2 : Claimed_1_2 := comes_1 fun _ _ _ _ _ _ h hF => ⟨h.2.1, hF⟩
end Jvm.Pilot.@@N@@
namespace Jvm.Pilot.@@N@@
open Jvm Jvm.ClassFile Sem Op Lib Jvm.Free Jvm.Stand Jvm.Pilot.@@N@@.Jvm.D
/-! MADE BY PROGRAM (witnessworld.py) out of the Statement's table words and the real class files: 25 classes; the members and pool entries that the words name. The judged class is class 1, her method 1. -/
namespace start1
open Jvm.ClassFile
def u (s : String) : CpInfo := .utf8 (stringToUtf16 s)
/-- a pool by its gaps: so many unusable entries, then the entry; so many at the end -/
def gap : Nat → List CpInfo → List CpInfo
  | 0, r => r
  | n + 1, r => .unusable :: gap n r
def poolList (es : List (Nat × CpInfo)) (last : Nat) : List CpInfo := es.foldr (fun e r => gap e.1 (e.2 :: r)) (gap last [])
def pool (es : List (Nat × CpInfo)) (last : Nat) : Array CpInfo := ⟨poolList es last⟩
def fileOf (pool : Array CpInfo) (this : Nat) (attrs : Array Attribute := #[]) (ms : Array MethodInfo := #[]) (fl : Nat := 33) (sup : Nat := 0) (ifs : Array Nat := #[]) (fds : Array FieldInfo := #[]) : ClassFile where
  minorVersion := 0
  majorVersion := 65
  constantPool := pool
  accessFlags := fl
  thisClass := this
  superClass := sup
  interfaces := ifs
  fields := fds
  methods := ms
  attributes := attrs
def plain (name : String) (sup : Option ClassId) : Class where
  name := name
  kind := .ordinary
  loader := none
  accessFlags := 33
  super := sup
  interfaces := #[]
  cf := none
  fields := #[]
  methods := #[]
  instanceTypes := #[]
  staticTypes := #[]
  resolved := #[]
  callSites := []
  init := .initialized
  statics := none
  mirror := none

def pool0 : Array CpInfo := pool [(5, u "<init>"), (0, u "()V"), (1, .class_ 10), (1, u "java/lang/Object")] 113

def k0c0 : Code := { maxStack := 0, maxLocals := 1, code := object_method_1_code, exceptionTable := #[], attributes := #[] }
def k0m0 : Method := { name := "<init>", desc := "()V", sig := { parameters := [], returnType := none }, accessFlags := 1, code := some k0c0 }
/-- java/lang/Object -/
def k0 : Class := { plain "java/lang/Object" none with
  accessFlags := 33
  interfaces := #[]
  cf := some (fileOf pool0 8 #[] #[{ accessFlags := 1, nameIndex := 5, descriptorIndex := 6, attributes := #[] }] 33 0 #[] #[])
  fields := #[]
  methods := #[k0m0]
  instanceTypes := #[]
  staticTypes := #[]
  resolved := Array.replicate 124 none
  statics := none }

def pool1 : Array CpInfo := pool [(2, .class_ 4), (1, u "java/lang/Object"), (0, u "<init>"), (0, u "()V"), (0, .fieldref 8 9), (0, .class_ 10), (0, .nameAndType 11 12), (0, u "com/example/nudge/nudge/tree/Node$Kind"), (0, u "STRING"), (0, u "Lcom/example/nudge/nudge/tree/Node$Kind;"), (0, .fieldref 8 14), (0, .nameAndType 15 12), (0, u "NUMBER"), (0, .fieldref 8 17), (0, .nameAndType 18 12), (0, u "BOOLEAN"), (0, .fieldref 8 20), (0, .nameAndType 21 12), (0, u "NULL"), (0, .methodref 23 24), (0, .class_ 25), (0, .nameAndType 26 27), (0, u "java/lang/Math"), (0, u "min"), (0, u "(II)I"), (0, .class_ 29), (0, u "java/lang/String"), (0, .methodref 28 31), (0, .nameAndType 5 32), (0, u "([C)V"), (0, .methodref 34 35), (0, .class_ 36), (0, .nameAndType 37 38), (0, u "com/example/nudge/nudge/tree/Node"), (0, u "scalar"), (0, u "(Lcom/example/nudge/nudge/tree/Node$Kind;Ljava/lang/String;)Lcom/example/nudge/nudge/tree/Node;"), (0, .methodref 34 40), (0, .nameAndType 41 42), (0, u "kind"), (0, u "()Lcom/example/nudge/nudge/tree/Node$Kind;"), (0, .methodref 34 44), (0, .nameAndType 45 46), (0, u "text"), (0, u "()Ljava/lang/String;"), (0, .methodref 28 48), (0, .nameAndType 49 50), (0, u "equals"), (0, u "(Ljava/lang/Object;)Z"), (0, .methodref 34 52), (0, .nameAndType 53 54), (0, u "size"), (0, u "()I"), (0, .methodref 34 56), (0, .nameAndType 57 58), (0, u "get"), (0, u "(Ljava/lang/String;)Lcom/example/nudge/nudge/tree/Node;"), (0, .methodref 34 60), (0, .nameAndType 61 62), (0, u "isString"), (0, u "(Lcom/example/nudge/nudge/tree/Node;Ljava/lang/String;)Z"), (0, .methodref 34 64), (0, .nameAndType 65 66), (0, u "isTrue"), (0, u "(Lcom/example/nudge/nudge/tree/Node;)Z"), (0, .string 68), (0, u "true"), (0, .class_ 70), (0, u "com/example/nudge/nudge/tree/NodeScalarPinLaw"), (2, u "law"), (0, u "(IIIIII)Z")] 7

def k1m0 : Method := { name := "<init>", desc := "()V", sig := { parameters := [], returnType := none }, accessFlags := 1, code := none }
def k1c1 : Code := { maxStack := 4, maxLocals := 13, code := code, exceptionTable := #[], attributes := #[] }
def k1m1 : Method := { name := "law", desc := "(IIIIII)Z", sig := { parameters := [.int, .int, .int, .int, .int, .int], returnType := some .boolean }, accessFlags := 9, code := some k1c1 }
/-- com/example/nudge/nudge/tree/NodeScalarPinLaw -/
def k1 : Class := { plain "com/example/nudge/nudge/tree/NodeScalarPinLaw" (some 0) with
  accessFlags := 49
  interfaces := #[]
  cf := some (fileOf pool1 69 #[] #[{ accessFlags := 1, nameIndex := 5, descriptorIndex := 6, attributes := #[] }, { accessFlags := 9, nameIndex := 73, descriptorIndex := 74, attributes := #[] }] 49 2 #[] #[])
  fields := #[]
  methods := #[k1m0, k1m1]
  instanceTypes := #[]
  staticTypes := #[]
  resolved := Array.replicate 82 none
  statics := none }

def pool2 : Array CpInfo := pool [(1, .class_ 2), (0, u "java/lang/constant/Constable"), (0, .class_ 4), (0, u "java/lang/Object")] 6

/-- java/lang/constant/Constable -/
def k2 : Class := { plain "java/lang/constant/Constable" (some 0) with
  accessFlags := 1537
  interfaces := #[]
  cf := some (fileOf pool2 1 #[] #[] 1537 3 #[] #[])
  fields := #[]
  methods := #[]
  instanceTypes := #[]
  staticTypes := #[]
  resolved := Array.replicate 11 none
  statics := none }

def pool3 : Array CpInfo := pool [(1, .class_ 2), (0, u "java/lang/Comparable"), (0, .class_ 4), (0, u "java/lang/Object")] 7

/-- java/lang/Comparable -/
def k3 : Class := { plain "java/lang/Comparable" (some 0) with
  accessFlags := 1537
  interfaces := #[]
  cf := some (fileOf pool3 1 #[] #[] 1537 3 #[] #[])
  fields := #[]
  methods := #[]
  instanceTypes := #[]
  staticTypes := #[]
  resolved := Array.replicate 12 none
  statics := none }

def pool4 : Array CpInfo := pool [(1, .class_ 2), (0, u "java/io/Serializable"), (0, .class_ 4), (0, u "java/lang/Object")] 2

/-- java/io/Serializable -/
def k4 : Class := { plain "java/io/Serializable" (some 0) with
  accessFlags := 1537
  interfaces := #[]
  cf := some (fileOf pool4 1 #[] #[] 1537 3 #[] #[])
  fields := #[]
  methods := #[]
  instanceTypes := #[]
  staticTypes := #[]
  resolved := Array.replicate 7 none
  statics := none }

def pool5 : Array CpInfo := pool [(2, .class_ 4), (1, u "java/lang/Enum"), (0, u "name"), (0, u "Ljava/lang/String;"), (2, u "ordinal"), (0, u "I"), (1, .class_ 14), (1, u "java/lang/Object"), (4, u "hash"), (86, .class_ 108), (1, u "java/lang/Enum$EnumDesc"), (2, .class_ 112), (0, u "java/lang/constant/Constable"), (0, .class_ 114), (0, u "java/lang/Comparable"), (0, .class_ 116), (0, u "java/io/Serializable")] 87

/-- java/lang/Enum -/
def k5 : Class := { plain "java/lang/Enum" (some 0) with
  accessFlags := 1057
  interfaces := #[2, 3, 4]
  cf := some (fileOf pool5 2 #[.nestMembers #[106]] #[] 1057 12 #[111, 113, 115] #[{ accessFlags := 18, nameIndex := 5, descriptorIndex := 6, attributes := #[] }, { accessFlags := 18, nameIndex := 9, descriptorIndex := 10, attributes := #[] }, { accessFlags := 2, nameIndex := 19, descriptorIndex := 10, attributes := #[] }])
  fields := #[{ name := "name", type := (.object "java/lang/String"), accessFlags := 18, slot := 0, constantValue := 0 }, { name := "ordinal", type := .int, accessFlags := 18, slot := 1, constantValue := 0 }, { name := "hash", type := .int, accessFlags := 2, slot := 2, constantValue := 0 }]
  methods := #[]
  instanceTypes := #[(.object "java/lang/String"), .int, .int]
  staticTypes := #[]
  resolved := Array.replicate 204 none
  statics := none }

def pool6 : Array CpInfo := pool [(1, .class_ 2), (0, u "com/example/nudge/nudge/tree/Node$Kind"), (2, u "OBJECT"), (0, u "Lcom/example/nudge/nudge/tree/Node$Kind;"), (2, u "ARRAY"), (2, u "STRING"), (2, u "NUMBER"), (2, u "BOOLEAN"), (2, u "NULL"), (2, u "$VALUES"), (0, u "[Lcom/example/nudge/nudge/tree/Node$Kind;"), (6, .class_ 34), (1, u "java/lang/Enum"), (29, .class_ 65), (0, u "com/example/nudge/nudge/tree/Node")] 2

/-- com/example/nudge/nudge/tree/Node$Kind -/
def k6 : Class := { plain "com/example/nudge/nudge/tree/Node$Kind" (some 5) with
  accessFlags := 16433
  interfaces := #[]
  cf := some (fileOf pool6 1 #[.nestHost 64] #[] 16433 32 #[] #[{ accessFlags := 16409, nameIndex := 5, descriptorIndex := 6, attributes := #[] }, { accessFlags := 16409, nameIndex := 9, descriptorIndex := 6, attributes := #[] }, { accessFlags := 16409, nameIndex := 12, descriptorIndex := 6, attributes := #[] }, { accessFlags := 16409, nameIndex := 15, descriptorIndex := 6, attributes := #[] }, { accessFlags := 16409, nameIndex := 18, descriptorIndex := 6, attributes := #[] }, { accessFlags := 16409, nameIndex := 21, descriptorIndex := 6, attributes := #[] }, { accessFlags := 4122, nameIndex := 24, descriptorIndex := 25, attributes := #[] }])
  fields := #[{ name := "OBJECT", type := (.object "com/example/nudge/nudge/tree/Node$Kind"), accessFlags := 16409, slot := 0, constantValue := 0 }, { name := "ARRAY", type := (.object "com/example/nudge/nudge/tree/Node$Kind"), accessFlags := 16409, slot := 1, constantValue := 0 }, { name := "STRING", type := (.object "com/example/nudge/nudge/tree/Node$Kind"), accessFlags := 16409, slot := 2, constantValue := 0 }, { name := "NUMBER", type := (.object "com/example/nudge/nudge/tree/Node$Kind"), accessFlags := 16409, slot := 3, constantValue := 0 }, { name := "BOOLEAN", type := (.object "com/example/nudge/nudge/tree/Node$Kind"), accessFlags := 16409, slot := 4, constantValue := 0 }, { name := "NULL", type := (.object "com/example/nudge/nudge/tree/Node$Kind"), accessFlags := 16409, slot := 5, constantValue := 0 }, { name := "$VALUES", type := (.array (.object "com/example/nudge/nudge/tree/Node$Kind")), accessFlags := 4122, slot := 6, constantValue := 0 }]
  methods := #[]
  instanceTypes := #[(.object "java/lang/String"), .int, .int]
  staticTypes := #[(.object "com/example/nudge/nudge/tree/Node$Kind"), (.object "com/example/nudge/nudge/tree/Node$Kind"), (.object "com/example/nudge/nudge/tree/Node$Kind"), (.object "com/example/nudge/nudge/tree/Node$Kind"), (.object "com/example/nudge/nudge/tree/Node$Kind"), (.object "com/example/nudge/nudge/tree/Node$Kind"), (.array (.object "com/example/nudge/nudge/tree/Node$Kind"))]
  resolved := Array.replicate 68 none
  statics := some 0 }

def pool7 : Array CpInfo := pool [(1, .class_ 2), (0, u "java/lang/Math"), (1, .class_ 6), (1, u "java/lang/Object"), (0, u "<init>"), (0, u "()V"), (89, .class_ 100), (1, u "java/lang/Math$RandomNumberGeneratorHolder"), (71, u "negativeZeroFloatBits"), (0, u "J"), (2, u "negativeZeroDoubleBits"), (24, u "min"), (43, u "$assertionsDisabled"), (0, u "Z"), (88, u "(II)I"), (2, u "twoToTheDoubleScaleDown"), (0, u "D"), (4, u "twoToTheDoubleScaleUp"), (9, u "E"), (3, u "PI"), (2, u "TAU"), (2, u "DEGREES_TO_RADIANS"), (0, u "RADIANS_TO_DEGREES")] 94

def k7m0 : Method := { name := "<init>", desc := "()V", sig := { parameters := [], returnType := none }, accessFlags := 2, code := none }
def k7c1 : Code := { maxStack := 2, maxLocals := 2, code := jdk_29_method_69_code, exceptionTable := #[], attributes := #[] }
def k7m1 : Method := { name := "min", desc := "(II)I", sig := { parameters := [.int, .int], returnType := some .int }, accessFlags := 9, code := some k7c1 }
/-- java/lang/Math -/
def k7 : Class := { plain "java/lang/Math" (some 0) with
  accessFlags := 49
  interfaces := #[]
  cf := some (fileOf pool7 1 #[.nestMembers #[98]] #[{ accessFlags := 2, nameIndex := 7, descriptorIndex := 8, attributes := #[] }, { accessFlags := 9, nameIndex := 201, descriptorIndex := 335, attributes := #[] }] 49 4 #[] #[{ accessFlags := 25, nameIndex := 354, descriptorIndex := 339, attributes := #[] }, { accessFlags := 25, nameIndex := 358, descriptorIndex := 339, attributes := #[] }, { accessFlags := 25, nameIndex := 361, descriptorIndex := 339, attributes := #[] }, { accessFlags := 26, nameIndex := 364, descriptorIndex := 339, attributes := #[] }, { accessFlags := 26, nameIndex := 365, descriptorIndex := 339, attributes := #[] }, { accessFlags := 26, nameIndex := 172, descriptorIndex := 173, attributes := #[] }, { accessFlags := 26, nameIndex := 176, descriptorIndex := 173, attributes := #[] }, { accessFlags := 8, nameIndex := 344, descriptorIndex := 339, attributes := #[] }, { accessFlags := 8, nameIndex := 338, descriptorIndex := 339, attributes := #[] }, { accessFlags := 4120, nameIndex := 245, descriptorIndex := 246, attributes := #[] }])
  fields := #[{ name := "E", type := .double, accessFlags := 25, slot := 0, constantValue := 0 }, { name := "PI", type := .double, accessFlags := 25, slot := 1, constantValue := 0 }, { name := "TAU", type := .double, accessFlags := 25, slot := 2, constantValue := 0 }, { name := "DEGREES_TO_RADIANS", type := .double, accessFlags := 26, slot := 3, constantValue := 0 }, { name := "RADIANS_TO_DEGREES", type := .double, accessFlags := 26, slot := 4, constantValue := 0 }, { name := "negativeZeroFloatBits", type := .long, accessFlags := 26, slot := 5, constantValue := 0 }, { name := "negativeZeroDoubleBits", type := .long, accessFlags := 26, slot := 6, constantValue := 0 }, { name := "twoToTheDoubleScaleUp", type := .double, accessFlags := 8, slot := 7, constantValue := 0 }, { name := "twoToTheDoubleScaleDown", type := .double, accessFlags := 8, slot := 8, constantValue := 0 }, { name := "$assertionsDisabled", type := .boolean, accessFlags := 4120, slot := 9, constantValue := 0 }]
  methods := #[k7m0, k7m1]
  instanceTypes := #[]
  staticTypes := #[.double, .double, .double, .double, .double, .long, .long, .double, .double, .boolean]
  resolved := Array.replicate 460 none
  statics := none }

def pool8 : Array CpInfo := pool [(2, .class_ 4), (1, u "java/lang/CharSequence"), (42, .class_ 48), (0, u "java/lang/CharSequence$1CodePointIterator"), (10, .class_ 60), (0, u "java/lang/CharSequence$1CharIterator"), (5, .class_ 67), (0, u "java/lang/Object")] 63

/-- java/lang/CharSequence -/
def k8 : Class := { plain "java/lang/CharSequence" (some 0) with
  accessFlags := 1537
  interfaces := #[]
  cf := some (fileOf pool8 2 #[.nestMembers #[47, 59]] #[] 1537 66 #[] #[])
  fields := #[]
  methods := #[]
  instanceTypes := #[]
  staticTypes := #[]
  resolved := Array.replicate 131 none
  statics := none }

def pool9 : Array CpInfo := pool [(1, .class_ 2), (0, u "java/lang/constant/ConstantDesc"), (0, .class_ 4), (0, u "java/lang/Object")] 32

/-- java/lang/constant/ConstantDesc -/
def k9 : Class := { plain "java/lang/constant/ConstantDesc" (some 0) with
  accessFlags := 1537
  interfaces := #[]
  cf := some (fileOf pool9 1 #[] #[] 1537 3 #[] #[])
  fields := #[]
  methods := #[]
  instanceTypes := #[]
  staticTypes := #[]
  resolved := Array.replicate 37 none
  statics := none }

def pool10 : Array CpInfo := pool [(1, .methodref 2 3), (0, .class_ 4), (0, .nameAndType 5 6), (0, u "java/lang/Object"), (0, u "<init>"), (0, u "()V"), (0, .string 8), (0, u ""), (0, .fieldref 10 11), (0, .class_ 12), (0, .nameAndType 13 14), (0, u "java/lang/String"), (0, u "value"), (0, u "[B"), (0, .fieldref 10 16), (0, .nameAndType 17 18), (0, u "coder"), (0, u "B"), (2, u "hash"), (0, u "I"), (2, u "hashIsZero"), (0, u "Z"), (0, .methodref 10 28), (0, .nameAndType 5 29), (0, u "([CIILjava/lang/Void;)V"), (8, .fieldref 10 39), (0, .nameAndType 40 26), (0, u "COMPACT_STRINGS"), (1, .class_ 44), (1, u "java/lang/StringUTF16"), (0, u "compress"), (1, .methodref 42 48), (0, .nameAndType 49 50), (0, u "coderFromArrayLen"), (0, u "([BI)B"), (56, .class_ 109), (1, u "java/lang/StringLatin1"), (67, .methodref 42 178), (0, .nameAndType 45 179), (0, u "([CII)[B"), (361, .methodref 107 542), (0, .nameAndType 543 544), (0, u "equals"), (0, u "([B[B)Z"), (28, u "(Ljava/lang/Object;)Z"), (1, .class_ 576), (0, u "java/lang/CharSequence"), (22, u "CASE_INSENSITIVE_ORDER"), (0, u "Ljava/util/Comparator;"), (409, u "([C)V"), (90, u "serialPersistentFields"), (0, u "[Ljava/io/ObjectStreamField;"), (0, .class_ 1104), (0, u "java/lang/String$CaseInsensitiveComparator"), (1, .class_ 1107), (0, u "java/io/Serializable"), (0, .class_ 1109), (0, u "java/lang/Comparable"), (0, .class_ 1111), (0, u "java/lang/constant/Constable"), (0, .class_ 1113), (0, u "java/lang/constant/ConstantDesc"), (2, u "serialVersionUID"), (0, u "J"), (3, u "REPL"), (0, u "C"), (2, u "LATIN1"), (1, u "UTF16")] 323

def k10m0 : Method := { name := "<init>", desc := "()V", sig := { parameters := [], returnType := none }, accessFlags := 1, code := none }
def k10c1 : Code := { maxStack := 5, maxLocals := 2, code := jdk_42_method_3_code, exceptionTable := #[], attributes := #[] }
def k10m1 : Method := { name := "<init>", desc := "([C)V", sig := { parameters := [(.array .char)], returnType := none }, accessFlags := 1, code := some k10c1 }
def k10c2 : Code := { maxStack := 2, maxLocals := 3, code := jdk_42_method_66_code, exceptionTable := #[], attributes := #[] }
def k10m2 : Method := { name := "equals", desc := "(Ljava/lang/Object;)Z", sig := { parameters := [(.object "java/lang/Object")], returnType := some .boolean }, accessFlags := 1, code := some k10c2 }
def k10c3 : Code := { maxStack := 4, maxLocals := 6, code := jdk_42_method_149_code, exceptionTable := #[], attributes := #[] }
def k10m3 : Method := { name := "<init>", desc := "([CIILjava/lang/Void;)V", sig := { parameters := [(.array .char), .int, .int, (.object "java/lang/Void")], returnType := none }, accessFlags := 2, code := some k10c3 }
/-- java/lang/String -/
def k10 : Class := { plain "java/lang/String" (some 0) with
  accessFlags := 49
  interfaces := #[4, 3, 8, 2, 9]
  cf := some (fileOf pool10 10 #[.nestMembers #[1103]] #[{ accessFlags := 1, nameIndex := 5, descriptorIndex := 6, attributes := #[] }, { accessFlags := 1, nameIndex := 5, descriptorIndex := 1010, attributes := #[] }, { accessFlags := 1, nameIndex := 543, descriptorIndex := 573, attributes := #[] }, { accessFlags := 2, nameIndex := 5, descriptorIndex := 29, attributes := #[] }] 49 2 #[1106, 1108, 575, 1110, 1112] #[{ accessFlags := 18, nameIndex := 13, descriptorIndex := 14, attributes := #[] }, { accessFlags := 18, nameIndex := 17, descriptorIndex := 18, attributes := #[] }, { accessFlags := 2, nameIndex := 21, descriptorIndex := 22, attributes := #[] }, { accessFlags := 2, nameIndex := 25, descriptorIndex := 26, attributes := #[] }, { accessFlags := 26, nameIndex := 1116, descriptorIndex := 1117, attributes := #[] }, { accessFlags := 24, nameIndex := 40, descriptorIndex := 26, attributes := #[] }, { accessFlags := 26, nameIndex := 1101, descriptorIndex := 1102, attributes := #[] }, { accessFlags := 26, nameIndex := 1121, descriptorIndex := 1122, attributes := #[] }, { accessFlags := 25, nameIndex := 599, descriptorIndex := 600, attributes := #[] }, { accessFlags := 24, nameIndex := 1125, descriptorIndex := 18, attributes := #[] }, { accessFlags := 24, nameIndex := 1127, descriptorIndex := 18, attributes := #[] }])
  fields := #[{ name := "value", type := (.array .byte), accessFlags := 18, slot := 0, constantValue := 0 }, { name := "coder", type := .byte, accessFlags := 18, slot := 1, constantValue := 0 }, { name := "hash", type := .int, accessFlags := 2, slot := 2, constantValue := 0 }, { name := "hashIsZero", type := .boolean, accessFlags := 2, slot := 3, constantValue := 0 }, { name := "serialVersionUID", type := .long, accessFlags := 26, slot := 0, constantValue := 0 }, { name := "COMPACT_STRINGS", type := .boolean, accessFlags := 24, slot := 1, constantValue := 0 }, { name := "serialPersistentFields", type := (.array (.object "java/io/ObjectStreamField")), accessFlags := 26, slot := 2, constantValue := 0 }, { name := "REPL", type := .char, accessFlags := 26, slot := 3, constantValue := 0 }, { name := "CASE_INSENSITIVE_ORDER", type := (.object "java/util/Comparator"), accessFlags := 25, slot := 4, constantValue := 0 }, { name := "LATIN1", type := .byte, accessFlags := 24, slot := 5, constantValue := 0 }, { name := "UTF16", type := .byte, accessFlags := 24, slot := 6, constantValue := 0 }]
  methods := #[k10m0, k10m1, k10m2, k10m3]
  instanceTypes := #[(.array .byte), .byte, .int, .boolean]
  staticTypes := #[.long, .boolean, (.array (.object "java/io/ObjectStreamField")), .char, (.object "java/util/Comparator"), .byte, .byte]
  resolved := Array.replicate 1451 none
  statics := some 1 }

def pool11 : Array CpInfo := pool [(6, .class_ 8), (1, u "java/lang/Object"), (0, u "<init>"), (0, u "()V"), (1, .class_ 14), (1, u "java/lang/StringUTF16"), (31, u "$assertionsDisabled"), (0, u "Z"), (13, u "HI_BYTE_SHIFT"), (0, u "I"), (2, u "LO_BYTE_SHIFT"), (49, .methodref 12 116), (0, .nameAndType 117 118), (0, u "compress"), (0, u "([CI[BII)I"), (3, u "([CII)[B"), (138, u "coderFromArrayLen"), (0, u "([BI)B"), (106, .class_ 371), (1, u "java/lang/StringUTF16$LinesSpliterator"), (58, u "MAX_LENGTH"), (196, .class_ 628), (0, u "java/lang/StringUTF16$CodePointsSpliterator"), (0, .class_ 630), (0, u "java/lang/StringUTF16$CharsSpliterator")] 4

def k11m0 : Method := { name := "<init>", desc := "()V", sig := { parameters := [], returnType := none }, accessFlags := 0, code := none }
def k11c1 : Code := { maxStack := 2, maxLocals := 2, code := jdk_52_method_15_code, exceptionTable := #[], attributes := #[] }
def k11m1 : Method := { name := "coderFromArrayLen", desc := "([BI)B", sig := { parameters := [(.array .byte), .int], returnType := some .byte }, accessFlags := 8, code := some k11c1 }
def k11c2 : Code := { maxStack := 5, maxLocals := 6, code := jdk_52_method_16_code, exceptionTable := #[], attributes := #[] }
def k11m2 : Method := { name := "compress", desc := "([CII)[B", sig := { parameters := [(.array .char), .int, .int], returnType := some (.array .byte) }, accessFlags := 9, code := some k11c2 }
def k11c3 : Code := { maxStack := 3, maxLocals := 7, code := jdk_52_method_21_code, exceptionTable := #[], attributes := #[] }
def k11m3 : Method := { name := "compress", desc := "([CI[BII)I", sig := { parameters := [(.array .char), .int, (.array .byte), .int, .int], returnType := some .int }, accessFlags := 9, code := some k11c3 }
/-- java/lang/StringUTF16 -/
def k11 : Class := { plain "java/lang/StringUTF16" (some 0) with
  accessFlags := 48
  interfaces := #[]
  cf := some (fileOf pool11 12 #[.nestMembers #[627, 629, 369]] #[{ accessFlags := 0, nameIndex := 9, descriptorIndex := 10, attributes := #[] }, { accessFlags := 8, nameIndex := 261, descriptorIndex := 262, attributes := #[] }, { accessFlags := 9, nameIndex := 117, descriptorIndex := 122, attributes := #[] }, { accessFlags := 9, nameIndex := 117, descriptorIndex := 118, attributes := #[] }] 48 6 #[] #[{ accessFlags := 26, nameIndex := 61, descriptorIndex := 62, attributes := #[] }, { accessFlags := 26, nameIndex := 65, descriptorIndex := 62, attributes := #[] }, { accessFlags := 24, nameIndex := 430, descriptorIndex := 62, attributes := #[] }, { accessFlags := 4120, nameIndex := 46, descriptorIndex := 47, attributes := #[] }])
  fields := #[{ name := "HI_BYTE_SHIFT", type := .int, accessFlags := 26, slot := 0, constantValue := 0 }, { name := "LO_BYTE_SHIFT", type := .int, accessFlags := 26, slot := 1, constantValue := 0 }, { name := "MAX_LENGTH", type := .int, accessFlags := 24, slot := 2, constantValue := 0 }, { name := "$assertionsDisabled", type := .boolean, accessFlags := 4120, slot := 3, constantValue := 0 }]
  methods := #[k11m0, k11m1, k11m2, k11m3]
  instanceTypes := #[]
  staticTypes := #[.int, .int, .int, .boolean]
  resolved := Array.replicate 635 none
  statics := none }

def pool12 : Array CpInfo := pool [(1, .methodref 2 3), (0, .class_ 4), (0, .nameAndType 5 6), (0, u "java/lang/Object"), (0, u "<init>"), (0, u "()V"), (0, .fieldref 8 9), (0, .class_ 10), (0, .nameAndType 11 12), (0, u "com/example/nudge/nudge/tree/Node"), (0, u "kind"), (0, u "Lcom/example/nudge/nudge/tree/Node$Kind;"), (0, .fieldref 8 14), (0, .nameAndType 15 16), (0, u "text"), (0, u "Ljava/lang/String;"), (0, .fieldref 8 18), (0, .nameAndType 19 20), (0, u "names"), (0, u "[Ljava/lang/String;"), (0, .fieldref 8 22), (0, .nameAndType 23 24), (0, u "values"), (0, u "[Lcom/example/nudge/nudge/tree/Node;"), (0, .fieldref 8 26), (0, .nameAndType 27 28), (0, u "places"), (0, u "[I"), (0, .fieldref 8 30), (0, .nameAndType 31 32), (0, u "positions"), (0, u "Ljava/util/Map;"), (0, .fieldref 34 35), (0, .class_ 36), (0, .nameAndType 37 12), (0, u "com/example/nudge/nudge/tree/Node$Kind"), (0, u "OBJECT"), (0, .fieldref 34 39), (0, .nameAndType 40 12), (0, u "ARRAY"), (3, .class_ 46), (1, u "java/lang/String"), (9, .fieldref 8 57), (0, .nameAndType 58 20), (0, u "NO_NAMES"), (0, .fieldref 8 60), (0, .nameAndType 61 24), (0, u "NO_VALUES"), (0, .fieldref 8 63), (0, .nameAndType 64 28), (0, u "NO_PLACES"), (0, .methodref 8 66), (0, .nameAndType 5 67), (0, u "(Lcom/example/nudge/nudge/tree/Node$Kind;Ljava/lang/String;[Ljava/lang/String;[Lcom/example/nudge/nudge/tree/Node;[ILjava/util/Map;)V"), (12, .methodref 8 81), (0, .nameAndType 82 83), (0, u "position"), (0, u "([Ljava/lang/String;ILjava/util/Map;Ljava/lang/String;)I"), (23, u "size"), (0, u "()I"), (10, u "get"), (6, .methodref 44 127), (0, .nameAndType 128 129), (0, u "equals"), (0, u "(Ljava/lang/Object;)Z"), (0, .methodref 8 131), (0, .nameAndType 11 132), (0, u "()Lcom/example/nudge/nudge/tree/Node$Kind;"), (0, .fieldref 34 134), (0, .nameAndType 135 12), (0, u "STRING"), (0, .methodref 8 137), (0, .nameAndType 15 138), (0, u "()Ljava/lang/String;"), (0, .fieldref 34 140), (0, .nameAndType 141 12), (0, u "BOOLEAN"), (0, .string 143), (0, u "true"), (11, .class_ 156), (0, u "com/example/nudge/nudge/tree/Node$ObjectBuilder"), (7, u "EMPTY_OBJECT"), (0, u "Lcom/example/nudge/nudge/tree/Node;"), (0, u "MAX_DIGITS"), (0, u "I"), (2, u "SCANNED"), (1, u "KEPT"), (6, u "scalar"), (0, u "(Lcom/example/nudge/nudge/tree/Node$Kind;Ljava/lang/String;)Lcom/example/nudge/nudge/tree/Node;"), (3, u "(Ljava/lang/String;)Lcom/example/nudge/nudge/tree/Node;"), (7, u "isString"), (0, u "(Lcom/example/nudge/nudge/tree/Node;Ljava/lang/String;)Z"), (0, u "isTrue"), (0, u "(Lcom/example/nudge/nudge/tree/Node;)Z"), (6, .class_ 203), (0, u "com/example/nudge/nudge/tree/Node$ArrayBuilder")] 18

def k12c0 : Code := { maxStack := 2, maxLocals := 7, code := prog_21_method_1_code, exceptionTable := #[], attributes := #[] }
def k12m0 : Method := { name := "<init>", desc := "(Lcom/example/nudge/nudge/tree/Node$Kind;Ljava/lang/String;[Ljava/lang/String;[Lcom/example/nudge/nudge/tree/Node;[ILjava/util/Map;)V", sig := { parameters := [(.object "com/example/nudge/nudge/tree/Node$Kind"), (.object "java/lang/String"), (.array (.object "java/lang/String")), (.array (.object "com/example/nudge/nudge/tree/Node")), (.array .int), (.object "java/util/Map")], returnType := none }, accessFlags := 2, code := some k12c0 }
def k12c1 : Code := { maxStack := 8, maxLocals := 2, code := prog_21_method_2_code, exceptionTable := #[], attributes := #[] }
def k12m1 : Method := { name := "scalar", desc := "(Lcom/example/nudge/nudge/tree/Node$Kind;Ljava/lang/String;)Lcom/example/nudge/nudge/tree/Node;", sig := { parameters := [(.object "com/example/nudge/nudge/tree/Node$Kind"), (.object "java/lang/String")], returnType := some (.object "com/example/nudge/nudge/tree/Node") }, accessFlags := 8, code := some k12c1 }
def k12c2 : Code := { maxStack := 1, maxLocals := 1, code := prog_21_method_3_code, exceptionTable := #[], attributes := #[] }
def k12m2 : Method := { name := "kind", desc := "()Lcom/example/nudge/nudge/tree/Node$Kind;", sig := { parameters := [], returnType := some (.object "com/example/nudge/nudge/tree/Node$Kind") }, accessFlags := 1, code := some k12c2 }
def k12c3 : Code := { maxStack := 1, maxLocals := 1, code := prog_21_method_4_code, exceptionTable := #[], attributes := #[] }
def k12m3 : Method := { name := "text", desc := "()Ljava/lang/String;", sig := { parameters := [], returnType := some (.object "java/lang/String") }, accessFlags := 1, code := some k12c3 }
def k12c4 : Code := { maxStack := 4, maxLocals := 3, code := prog_21_method_6_code, exceptionTable := #[], attributes := #[] }
def k12m4 : Method := { name := "get", desc := "(Ljava/lang/String;)Lcom/example/nudge/nudge/tree/Node;", sig := { parameters := [(.object "java/lang/String")], returnType := some (.object "com/example/nudge/nudge/tree/Node") }, accessFlags := 1, code := some k12c4 }
def k12c5 : Code := { maxStack := 2, maxLocals := 1, code := prog_21_method_10_code, exceptionTable := #[], attributes := #[] }
def k12m5 : Method := { name := "size", desc := "()I", sig := { parameters := [], returnType := some .int }, accessFlags := 1, code := some k12c5 }
def k12c6 : Code := { maxStack := 2, maxLocals := 6, code := prog_21_method_15_code, exceptionTable := #[], attributes := #[] }
def k12m6 : Method := { name := "position", desc := "([Ljava/lang/String;ILjava/util/Map;Ljava/lang/String;)I", sig := { parameters := [(.array (.object "java/lang/String")), .int, (.object "java/util/Map"), (.object "java/lang/String")], returnType := some .int }, accessFlags := 10, code := some k12c6 }
def k12c7 : Code := { maxStack := 2, maxLocals := 2, code := prog_21_method_19_code, exceptionTable := #[], attributes := #[] }
def k12m7 : Method := { name := "isString", desc := "(Lcom/example/nudge/nudge/tree/Node;Ljava/lang/String;)Z", sig := { parameters := [(.object "com/example/nudge/nudge/tree/Node"), (.object "java/lang/String")], returnType := some .boolean }, accessFlags := 9, code := some k12c7 }
def k12c8 : Code := { maxStack := 2, maxLocals := 1, code := prog_21_method_20_code, exceptionTable := #[], attributes := #[] }
def k12m8 : Method := { name := "isTrue", desc := "(Lcom/example/nudge/nudge/tree/Node;)Z", sig := { parameters := [(.object "com/example/nudge/nudge/tree/Node")], returnType := some .boolean }, accessFlags := 9, code := some k12c8 }
/-- com/example/nudge/nudge/tree/Node -/
def k12 : Class := { plain "com/example/nudge/nudge/tree/Node" (some 0) with
  accessFlags := 49
  interfaces := #[]
  cf := some (fileOf pool12 8 #[.nestMembers #[202, 155, 34]] #[{ accessFlags := 2, nameIndex := 5, descriptorIndex := 67, attributes := #[] }, { accessFlags := 8, nameIndex := 179, descriptorIndex := 180, attributes := #[] }, { accessFlags := 1, nameIndex := 11, descriptorIndex := 132, attributes := #[] }, { accessFlags := 1, nameIndex := 15, descriptorIndex := 138, attributes := #[] }, { accessFlags := 1, nameIndex := 119, descriptorIndex := 184, attributes := #[] }, { accessFlags := 1, nameIndex := 107, descriptorIndex := 108, attributes := #[] }, { accessFlags := 10, nameIndex := 82, descriptorIndex := 83, attributes := #[] }, { accessFlags := 9, nameIndex := 192, descriptorIndex := 193, attributes := #[] }, { accessFlags := 9, nameIndex := 194, descriptorIndex := 195, attributes := #[] }] 49 2 #[] #[{ accessFlags := 26, nameIndex := 58, descriptorIndex := 20, attributes := #[] }, { accessFlags := 26, nameIndex := 61, descriptorIndex := 24, attributes := #[] }, { accessFlags := 26, nameIndex := 64, descriptorIndex := 28, attributes := #[] }, { accessFlags := 25, nameIndex := 164, descriptorIndex := 165, attributes := #[] }, { accessFlags := 26, nameIndex := 166, descriptorIndex := 167, attributes := #[] }, { accessFlags := 26, nameIndex := 170, descriptorIndex := 167, attributes := #[] }, { accessFlags := 26, nameIndex := 172, descriptorIndex := 167, attributes := #[] }, { accessFlags := 18, nameIndex := 11, descriptorIndex := 12, attributes := #[] }, { accessFlags := 18, nameIndex := 15, descriptorIndex := 16, attributes := #[] }, { accessFlags := 18, nameIndex := 19, descriptorIndex := 20, attributes := #[] }, { accessFlags := 18, nameIndex := 23, descriptorIndex := 24, attributes := #[] }, { accessFlags := 18, nameIndex := 27, descriptorIndex := 28, attributes := #[] }, { accessFlags := 18, nameIndex := 31, descriptorIndex := 32, attributes := #[] }])
  fields := #[{ name := "NO_NAMES", type := (.array (.object "java/lang/String")), accessFlags := 26, slot := 0, constantValue := 0 }, { name := "NO_VALUES", type := (.array (.object "com/example/nudge/nudge/tree/Node")), accessFlags := 26, slot := 1, constantValue := 0 }, { name := "NO_PLACES", type := (.array .int), accessFlags := 26, slot := 2, constantValue := 0 }, { name := "EMPTY_OBJECT", type := (.object "com/example/nudge/nudge/tree/Node"), accessFlags := 25, slot := 3, constantValue := 0 }, { name := "MAX_DIGITS", type := .int, accessFlags := 26, slot := 4, constantValue := 0 }, { name := "SCANNED", type := .int, accessFlags := 26, slot := 5, constantValue := 0 }, { name := "KEPT", type := .int, accessFlags := 26, slot := 6, constantValue := 0 }, { name := "kind", type := (.object "com/example/nudge/nudge/tree/Node$Kind"), accessFlags := 18, slot := 0, constantValue := 0 }, { name := "text", type := (.object "java/lang/String"), accessFlags := 18, slot := 1, constantValue := 0 }, { name := "names", type := (.array (.object "java/lang/String")), accessFlags := 18, slot := 2, constantValue := 0 }, { name := "values", type := (.array (.object "com/example/nudge/nudge/tree/Node")), accessFlags := 18, slot := 3, constantValue := 0 }, { name := "places", type := (.array .int), accessFlags := 18, slot := 4, constantValue := 0 }, { name := "positions", type := (.object "java/util/Map"), accessFlags := 18, slot := 5, constantValue := 0 }]
  methods := #[k12m0, k12m1, k12m2, k12m3, k12m4, k12m5, k12m6, k12m7, k12m8]
  instanceTypes := #[(.object "com/example/nudge/nudge/tree/Node$Kind"), (.object "java/lang/String"), (.array (.object "java/lang/String")), (.array (.object "com/example/nudge/nudge/tree/Node")), (.array .int), (.object "java/util/Map")]
  staticTypes := #[(.array (.object "java/lang/String")), (.array (.object "com/example/nudge/nudge/tree/Node")), (.array .int), (.object "com/example/nudge/nudge/tree/Node"), .int, .int, .int]
  resolved := Array.replicate 222 none
  statics := some 2 }

def pool13 : Array CpInfo := pool [(4, .class_ 6), (1, u "java/lang/Object"), (0, u "<init>"), (0, u "()V"), (5, .class_ 16), (1, u "java/lang/StringLatin1"), (104, u "$assertionsDisabled"), (0, u "Z"), (98, .class_ 223), (1, u "java/lang/StringLatin1$LinesSpliterator"), (57, u "equals"), (0, u "([B[B)Z"), (107, .class_ 391), (0, u "java/lang/StringLatin1$CharsSpliterator")] 3

def k13m0 : Method := { name := "<init>", desc := "()V", sig := { parameters := [], returnType := none }, accessFlags := 0, code := none }
def k13c1 : Code := { maxStack := 3, maxLocals := 3, code := jdk_43_method_13_code, exceptionTable := #[], attributes := #[] }
def k13m1 : Method := { name := "equals", desc := "([B[B)Z", sig := { parameters := [(.array .byte), (.array .byte)], returnType := some .boolean }, accessFlags := 9, code := some k13c1 }
/-- java/lang/StringLatin1 -/
def k13 : Class := { plain "java/lang/StringLatin1" (some 0) with
  accessFlags := 48
  interfaces := #[]
  cf := some (fileOf pool13 14 #[.nestMembers #[390, 221]] #[{ accessFlags := 0, nameIndex := 7, descriptorIndex := 8, attributes := #[] }, { accessFlags := 9, nameIndex := 281, descriptorIndex := 282, attributes := #[] }] 48 4 #[] #[{ accessFlags := 4120, nameIndex := 121, descriptorIndex := 122, attributes := #[] }])
  fields := #[{ name := "$assertionsDisabled", type := .boolean, accessFlags := 4120, slot := 0, constantValue := 0 }]
  methods := #[k13m0, k13m1]
  instanceTypes := #[]
  staticTypes := #[.boolean]
  resolved := Array.replicate 395 none
  statics := none }

def pool14 : Array CpInfo := pool [(2, .class_ 4), (1, u "java/lang/Object"), (0, u "<init>"), (0, u "()V"), (17, .class_ 26), (1, u "jdk/internal/util/Preconditions"), (28, .class_ 56), (0, u "jdk/internal/util/Preconditions$4"), (57, .class_ 115), (0, u "jdk/internal/util/Preconditions$1"), (7, u "SIOOBE_FORMATTER"), (0, u "Ljava/util/function/BiFunction;"), (0, .class_ 126), (0, u "jdk/internal/util/Preconditions$2"), (3, u "AIOOBE_FORMATTER"), (0, .class_ 132), (0, u "jdk/internal/util/Preconditions$3"), (3, u "IOOBE_FORMATTER")] 57

def k14m0 : Method := { name := "<init>", desc := "()V", sig := { parameters := [], returnType := none }, accessFlags := 1, code := none }
/-- jdk/internal/util/Preconditions -/
def k14 : Class := { plain "jdk/internal/util/Preconditions" (some 0) with
  accessFlags := 33
  interfaces := #[]
  cf := some (fileOf pool14 24 #[.nestMembers #[55, 131, 125, 114]] #[{ accessFlags := 1, nameIndex := 5, descriptorIndex := 6, attributes := #[] }] 33 2 #[] #[{ accessFlags := 25, nameIndex := 123, descriptorIndex := 124, attributes := #[] }, { accessFlags := 25, nameIndex := 130, descriptorIndex := 124, attributes := #[] }, { accessFlags := 25, nameIndex := 136, descriptorIndex := 124, attributes := #[] }])
  fields := #[{ name := "SIOOBE_FORMATTER", type := (.object "java/util/function/BiFunction"), accessFlags := 25, slot := 0, constantValue := 0 }, { name := "AIOOBE_FORMATTER", type := (.object "java/util/function/BiFunction"), accessFlags := 25, slot := 1, constantValue := 0 }, { name := "IOOBE_FORMATTER", type := (.object "java/util/function/BiFunction"), accessFlags := 25, slot := 2, constantValue := 0 }]
  methods := #[k14m0]
  instanceTypes := #[]
  staticTypes := #[(.object "java/util/function/BiFunction"), (.object "java/util/function/BiFunction"), (.object "java/util/function/BiFunction")]
  resolved := Array.replicate 194 none
  statics := some 3 }

def pool15 : Array CpInfo := pool [(9, u "<init>"), (6, .class_ 18), (1, u "java/lang/Object"), (0, u "()V"), (1, .class_ 23), (1, u "jdk/internal/util/ArraysSupport"), (0, u "LOG2_ARRAY_LONG_INDEX_SCALE"), (0, u "I"), (2, u "U"), (0, u "Ljdk/internal/misc/Unsafe;"), (8, u "BIG_ENDIAN"), (0, u "Z"), (8, u "LOG2_BYTE_BIT_SIZE"), (4, u "LOG2_ARRAY_INT_INDEX_SCALE"), (54, u "JLA"), (0, u "Ljdk/internal/access/JavaLangAccess;"), (11, u "LOG2_ARRAY_BOOLEAN_INDEX_SCALE"), (9, u "LOG2_ARRAY_BYTE_INDEX_SCALE"), (5, u "LOG2_ARRAY_CHAR_INDEX_SCALE"), (5, u "LOG2_ARRAY_SHORT_INDEX_SCALE"), (18, u "LOG2_ARRAY_FLOAT_INDEX_SCALE"), (24, u "LOG2_ARRAY_DOUBLE_INDEX_SCALE"), (89, u "T_BOOLEAN"), (2, u "T_CHAR"), (1, u "T_FLOAT"), (1, u "T_DOUBLE"), (1, u "T_BYTE"), (1, u "T_SHORT"), (1, u "T_INT"), (1, u "T_LONG"), (1, u "SOFT_MAX_ARRAY_LENGTH")] 83

def k15m0 : Method := { name := "<init>", desc := "()V", sig := { parameters := [], returnType := none }, accessFlags := 2, code := none }
/-- jdk/internal/util/ArraysSupport -/
def k15 : Class := { plain "jdk/internal/util/ArraysSupport" (some 0) with
  accessFlags := 33
  interfaces := #[]
  cf := some (fileOf pool15 21 #[] #[{ accessFlags := 2, nameIndex := 9, descriptorIndex := 19, attributes := #[] }] 33 16 #[] #[{ accessFlags := 24, nameIndex := 28, descriptorIndex := 29, attributes := #[] }, { accessFlags := 26, nameIndex := 38, descriptorIndex := 39, attributes := #[] }, { accessFlags := 25, nameIndex := 121, descriptorIndex := 25, attributes := #[] }, { accessFlags := 25, nameIndex := 131, descriptorIndex := 25, attributes := #[] }, { accessFlags := 25, nameIndex := 137, descriptorIndex := 25, attributes := #[] }, { accessFlags := 25, nameIndex := 143, descriptorIndex := 25, attributes := #[] }, { accessFlags := 25, nameIndex := 53, descriptorIndex := 25, attributes := #[] }, { accessFlags := 25, nameIndex := 24, descriptorIndex := 25, attributes := #[] }, { accessFlags := 25, nameIndex := 162, descriptorIndex := 25, attributes := #[] }, { accessFlags := 25, nameIndex := 187, descriptorIndex := 25, attributes := #[] }, { accessFlags := 26, nameIndex := 48, descriptorIndex := 25, attributes := #[] }, { accessFlags := 25, nameIndex := 277, descriptorIndex := 25, attributes := #[] }, { accessFlags := 25, nameIndex := 280, descriptorIndex := 25, attributes := #[] }, { accessFlags := 25, nameIndex := 282, descriptorIndex := 25, attributes := #[] }, { accessFlags := 25, nameIndex := 284, descriptorIndex := 25, attributes := #[] }, { accessFlags := 25, nameIndex := 286, descriptorIndex := 25, attributes := #[] }, { accessFlags := 25, nameIndex := 288, descriptorIndex := 25, attributes := #[] }, { accessFlags := 25, nameIndex := 290, descriptorIndex := 25, attributes := #[] }, { accessFlags := 25, nameIndex := 292, descriptorIndex := 25, attributes := #[] }, { accessFlags := 26, nameIndex := 108, descriptorIndex := 109, attributes := #[] }, { accessFlags := 25, nameIndex := 294, descriptorIndex := 25, attributes := #[] }])
  fields := #[{ name := "U", type := (.object "jdk/internal/misc/Unsafe"), accessFlags := 24, slot := 0, constantValue := 0 }, { name := "BIG_ENDIAN", type := .boolean, accessFlags := 26, slot := 1, constantValue := 0 }, { name := "LOG2_ARRAY_BOOLEAN_INDEX_SCALE", type := .int, accessFlags := 25, slot := 2, constantValue := 0 }, { name := "LOG2_ARRAY_BYTE_INDEX_SCALE", type := .int, accessFlags := 25, slot := 3, constantValue := 0 }, { name := "LOG2_ARRAY_CHAR_INDEX_SCALE", type := .int, accessFlags := 25, slot := 4, constantValue := 0 }, { name := "LOG2_ARRAY_SHORT_INDEX_SCALE", type := .int, accessFlags := 25, slot := 5, constantValue := 0 }, { name := "LOG2_ARRAY_INT_INDEX_SCALE", type := .int, accessFlags := 25, slot := 6, constantValue := 0 }, { name := "LOG2_ARRAY_LONG_INDEX_SCALE", type := .int, accessFlags := 25, slot := 7, constantValue := 0 }, { name := "LOG2_ARRAY_FLOAT_INDEX_SCALE", type := .int, accessFlags := 25, slot := 8, constantValue := 0 }, { name := "LOG2_ARRAY_DOUBLE_INDEX_SCALE", type := .int, accessFlags := 25, slot := 9, constantValue := 0 }, { name := "LOG2_BYTE_BIT_SIZE", type := .int, accessFlags := 26, slot := 10, constantValue := 0 }, { name := "T_BOOLEAN", type := .int, accessFlags := 25, slot := 11, constantValue := 0 }, { name := "T_CHAR", type := .int, accessFlags := 25, slot := 12, constantValue := 0 }, { name := "T_FLOAT", type := .int, accessFlags := 25, slot := 13, constantValue := 0 }, { name := "T_DOUBLE", type := .int, accessFlags := 25, slot := 14, constantValue := 0 }, { name := "T_BYTE", type := .int, accessFlags := 25, slot := 15, constantValue := 0 }, { name := "T_SHORT", type := .int, accessFlags := 25, slot := 16, constantValue := 0 }, { name := "T_INT", type := .int, accessFlags := 25, slot := 17, constantValue := 0 }, { name := "T_LONG", type := .int, accessFlags := 25, slot := 18, constantValue := 0 }, { name := "JLA", type := (.object "jdk/internal/access/JavaLangAccess"), accessFlags := 26, slot := 19, constantValue := 0 }, { name := "SOFT_MAX_ARRAY_LENGTH", type := .int, accessFlags := 25, slot := 20, constantValue := 0 }]
  methods := #[k15m0]
  instanceTypes := #[]
  staticTypes := #[(.object "jdk/internal/misc/Unsafe"), .boolean, .int, .int, .int, .int, .int, .int, .int, .int, .int, .int, .int, .int, .int, .int, .int, .int, .int, (.object "jdk/internal/access/JavaLangAccess"), .int]
  resolved := Array.replicate 378 none
  statics := none }

def pool16 : Array CpInfo := pool [(1, u "java/lang/Cloneable"), (0, .class_ 1), (0, u "java/lang/Object"), (0, .class_ 3)] 3

/-- java/lang/Cloneable -/
def k16 : Class := { plain "java/lang/Cloneable" (some 0) with
  accessFlags := 1537
  interfaces := #[]
  cf := some (fileOf pool16 2 #[] #[] 1537 4 #[] #[])
  fields := #[]
  methods := #[]
  instanceTypes := #[]
  staticTypes := #[]
  resolved := Array.replicate 8 none
  statics := none }

/-- the primitive byte -/
def k17 : Class := { plain "byte" none with kind := .primitive 'B', accessFlags := 0x411 }
/-- [B -/
def k18 : Class := { plain "[B" (some 0) with kind := .array 17 .byte, interfaces := #[16, 4], accessFlags := 1041 }

/-- the primitive char -/
def k19 : Class := { plain "char" none with kind := .primitive 'C', accessFlags := 0x411 }
/-- [C -/
def k20 : Class := { plain "[C" (some 0) with kind := .array 19 .char, interfaces := #[16, 4], accessFlags := 1041 }

/-- the primitive int -/
def k21 : Class := { plain "int" none with kind := .primitive 'I', accessFlags := 0x411 }
/-- [I -/
def k22 : Class := { plain "[I" (some 0) with kind := .array 21 .int, interfaces := #[16, 4], accessFlags := 1041 }

/-- [Lcom/example/nudge/nudge/tree/Node; -/
def k23 : Class := { plain "[Lcom/example/nudge/nudge/tree/Node;" (some 0) with kind := .array 12 (.object "com/example/nudge/nudge/tree/Node"), interfaces := #[16, 4], accessFlags := 1041 }

/-- [Ljava/lang/String; -/
def k24 : Class := { plain "[Ljava/lang/String;" (some 0) with kind := .array 10 (.object "java/lang/String"), interfaces := #[16, 4], accessFlags := 1041 }

def heap : Heap := #[{ cls := 6, slots := #[.ref 10, .ref 11, .ref 6, .ref 7, .ref 8, .ref 9, .null], vm := .statics 6 },
  { cls := 10, slots := #[.long 0, .int 1, .null, .int 0, .null, .int 0, .int 0], vm := .statics 10 },
  { cls := 12, slots := #[.ref 4, .ref 5, .ref 12, .null, .int 0, .int 0, .int 0], vm := .statics 12 },
  { cls := 14, slots := #[.null, .null, .null], vm := .statics 14 },
  { cls := 24, slots := #[], vm := .none },
  { cls := 23, slots := #[], vm := .none },
  { cls := 6, slots := #[.null, .int 2, .int 0], vm := .none },
  { cls := 6, slots := #[.null, .int 3, .int 0], vm := .none },
  { cls := 6, slots := #[.null, .int 4, .int 0], vm := .none },
  { cls := 6, slots := #[.null, .int 5, .int 0], vm := .none },
  { cls := 6, slots := #[.null, .int 0, .int 0], vm := .none },
  { cls := 6, slots := #[.null, .int 1, .int 0], vm := .none },
  { cls := 22, slots := #[], vm := .none }]
def classes : Array Class := #[k0, k1, k2, k3, k4, k5, k6, k7, k8, k9, k10, k11, k12, k13, k14, k15, k16, k17, k18, k19, k20, k21, k22, k23, k24]
def interned : List (Array UInt16 × Addr) := []
def slotsUsed : Nat := 42
def theMethod : MethodId := ⟨1, 1⟩
def args0 : Array Value := #[.int 5, .int 7, .int 1, .int 2, .int 3, .int 3]
def aboutOver (below : List Frame) : State where
  vm := { classes := classes, interned := interned.toArray }
  heap := heap
  slotsUsed := slotsUsed
  threads := #[{ frames := .invoking theMethod args0 :: below }]
def below0 : List Frame := [.native { method := ⟨0, 0⟩, args := #[] }]
def about1 : State := aboutOver below0
def p0 : Program := .bare "" "" ""
def e0 : Env := launch0.env 0 0 0
theorem w_frames : about1.frames = Frame.invoking theMethod args0 :: below0 := rfl
set_option maxRecDepth 65536 in
theorem w_args : argsFit about1.vm theMethod args0 = true := by decide +kernel
set_option maxRecDepth 65536 in
theorem w_heap : heapFits about1 = true := by decide +kernel
set_option maxRecDepth 65536 in
theorem w_runnable : about1.curStatus? = some .runnable := by decide +kernel
set_option maxRecDepth 65536 in
theorem w_alone : about1.alone = true := by decide +kernel
set_option maxRecDepth 65536 in
theorem w_named : about1.methodNamed? x = some theMethod := by decide +kernel
set_option maxRecDepth 65536 in
theorem w_hears : about1.hears theMethod below0 = true := by decide +kernel
set_option maxRecDepth 65536 in
theorem w_ripe : about1.ripe theMethod args0 below0 = true := by decide +kernel
theorem w_running : about1.status = .running := rfl
set_option maxRecDepth 65536 in
theorem w_room : about1.hasRoom e0.platform room_1 = true :=
  launch0.hasRoom_least _ room_1 (by decide +kernel) (by decide +kernel) (by decide +kernel) (by decide +kernel) (by decide +kernel) (by decide +kernel)
theorem allAtoms_all (ts : List Jvm.Cond) (a : Array Jvm.Value) (st : Jvm.State) : (allAtoms ts).before a st = ts.all (fun c => c.before a st) := by
  induction ts with
  | nil => rfl
  | cons c t ih =>
    show (Jvm.Cond.and c (allAtoms t)).before a st = _
    rw [Jvm.Cond.before_and, ih, List.all_cons]
def words1 : List Jvm.Cond := Jvm.Cond.code x code maxLocals ret :: tables_1
/-- a 'code' word, met by the world's own term for the bytes: nothing is compared byte by byte -/
theorem code_word {y : MethodName} {bytes : ByteArray} {mx : Nat} {rt : Option FieldType} {a : Array Value} {s : State} {m : MethodId} {meth : Method} {c : Code} (h1 : s.methodNamed? y = some m) (h2 : s.vm.method? m = some meth) (h3 : meth.code = some c) (h4 : c.code = bytes)
    (h5 : (c.maxLocals == mx && c.exceptionTable.isEmpty && decide (c.maxStack ≤ mostOperands) && decide (meth.sig.returnType = rt) && !meth.locks && decide (parseMethodDescriptor y.desc = some meth.sig)) = true) : (Jvm.Cond.code y bytes mx rt).before a s = true := by
  simp only [Bool.and_eq_true, beq_iff_eq, Bool.not_eq_true', decide_eq_true_eq] at h5
  obtain ⟨⟨⟨⟨⟨g1, g2⟩, g3⟩, g4⟩, g5⟩, g6⟩ := h5
  simp [Cond.before, Cond.holds, Cond.value, h1, h2, h3, h4, g1, g2, g3, g4, g5, g6]
def isCode : Jvm.Cond → Bool
  | .code _ _ _ _ => true
  | _ => false
theorem all_split {L : List Jvm.Cond} {P : Jvm.Cond → Bool} (h1 : L.all (fun c => isCode c || P c) = true) (h2 : ∀ c ∈ L.filter isCode, P c = true) : L.all P = true := by
  refine List.all_eq_true.mpr fun c hc => ?_
  have h := List.all_eq_true.mp h1 c hc
  rcases Bool.eq_false_or_eq_true (isCode c) with hi | hi
  · exact h2 c (List.mem_filter.mpr ⟨hc, hi⟩)
  · simpa [hi] using h
set_option maxRecDepth 65536 in
theorem w_c0 : (Jvm.Cond.code x code maxLocals ret).before args0 about1 = true := code_word (m := ⟨1, 1⟩) (meth := k1m1) (c := k1c1) (by decide +kernel) rfl rfl rfl (by decide +kernel)
set_option maxRecDepth 65536 in
theorem w_c1 : (Jvm.Cond.code ({ cls := "java/lang/Math", name := "min", desc := "(II)I" } : Jvm.MethodName) jdk_29_method_69_code (2 : Nat) (Option.some Jvm.ClassFile.FieldType.int)).before args0 about1 = true := code_word (m := ⟨7, 1⟩) (meth := k7m1) (c := k7c1) (by decide +kernel) rfl rfl rfl (by decide +kernel)
set_option maxRecDepth 65536 in
theorem w_c2 : (Jvm.Cond.code ({ cls := "java/lang/String", name := "<init>", desc := "([C)V" } : Jvm.MethodName) jdk_42_method_3_code (2 : Nat) (Option.none : Option Jvm.ClassFile.FieldType)).before args0 about1 = true := code_word (m := ⟨10, 1⟩) (meth := k10m1) (c := k10c1) (by decide +kernel) rfl rfl rfl (by decide +kernel)
set_option maxRecDepth 65536 in
theorem w_c3 : (Jvm.Cond.code ({ cls := "java/lang/String", name := "<init>", desc := "([CIILjava/lang/Void;)V" } : Jvm.MethodName) jdk_42_method_149_code (6 : Nat) (Option.none : Option Jvm.ClassFile.FieldType)).before args0 about1 = true := code_word (m := ⟨10, 3⟩) (meth := k10m3) (c := k10c3) (by decide +kernel) rfl rfl rfl (by decide +kernel)
set_option maxRecDepth 65536 in
theorem w_c4 : (Jvm.Cond.code ({ cls := "java/lang/Object", name := "<init>", desc := "()V" } : Jvm.MethodName) object_method_1_code (1 : Nat) (Option.none : Option Jvm.ClassFile.FieldType)).before args0 about1 = true := code_word (m := ⟨0, 0⟩) (meth := k0m0) (c := k0c0) (by decide +kernel) rfl rfl rfl (by decide +kernel)
set_option maxRecDepth 65536 in
theorem w_c5 : (Jvm.Cond.code ({ cls := "java/lang/StringUTF16", name := "compress", desc := "([CII)[B" } : Jvm.MethodName) jdk_52_method_16_code (6 : Nat) (Option.some (Jvm.ClassFile.FieldType.array Jvm.ClassFile.FieldType.byte))).before args0 about1 = true := code_word (m := ⟨11, 2⟩) (meth := k11m2) (c := k11c2) (by decide +kernel) rfl rfl rfl (by decide +kernel)
set_option maxRecDepth 65536 in
theorem w_c6 : (Jvm.Cond.code ({ cls := "java/lang/StringUTF16", name := "compress", desc := "([CI[BII)I" } : Jvm.MethodName) jdk_52_method_21_code (7 : Nat) (Option.some Jvm.ClassFile.FieldType.int)).before args0 about1 = true := code_word (m := ⟨11, 3⟩) (meth := k11m3) (c := k11c3) (by decide +kernel) rfl rfl rfl (by decide +kernel)
set_option maxRecDepth 65536 in
theorem w_c7 : (Jvm.Cond.code ({ cls := "java/lang/StringUTF16", name := "coderFromArrayLen", desc := "([BI)B" } : Jvm.MethodName) jdk_52_method_15_code (2 : Nat) (Option.some Jvm.ClassFile.FieldType.byte)).before args0 about1 = true := code_word (m := ⟨11, 1⟩) (meth := k11m1) (c := k11c1) (by decide +kernel) rfl rfl rfl (by decide +kernel)
set_option maxRecDepth 65536 in
theorem w_c8 : (Jvm.Cond.code ({ cls := "com/example/nudge/nudge/tree/Node", name := "scalar", desc := "(Lcom/example/nudge/nudge/tree/Node$Kind;Ljava/lang/String;)Lcom/example/nudge/nudge/tree/Node;" } : Jvm.MethodName) prog_21_method_2_code (2 : Nat) (Option.some (Jvm.ClassFile.FieldType.object "com/example/nudge/nudge/tree/Node"))).before args0 about1 = true := code_word (m := ⟨12, 1⟩) (meth := k12m1) (c := k12c1) (by decide +kernel) rfl rfl rfl (by decide +kernel)
set_option maxRecDepth 65536 in
theorem w_c9 : (Jvm.Cond.code ({ cls := "com/example/nudge/nudge/tree/Node", name := "<init>", desc := "(Lcom/example/nudge/nudge/tree/Node$Kind;Ljava/lang/String;[Ljava/lang/String;[Lcom/example/nudge/nudge/tree/Node;[ILjava/util/Map;)V" } : Jvm.MethodName) prog_21_method_1_code (7 : Nat) (Option.none : Option Jvm.ClassFile.FieldType)).before args0 about1 = true := code_word (m := ⟨12, 0⟩) (meth := k12m0) (c := k12c0) (by decide +kernel) rfl rfl rfl (by decide +kernel)
set_option maxRecDepth 65536 in
theorem w_c10 : (Jvm.Cond.code ({ cls := "com/example/nudge/nudge/tree/Node", name := "kind", desc := "()Lcom/example/nudge/nudge/tree/Node$Kind;" } : Jvm.MethodName) prog_21_method_3_code (1 : Nat) (Option.some (Jvm.ClassFile.FieldType.object "com/example/nudge/nudge/tree/Node$Kind"))).before args0 about1 = true := code_word (m := ⟨12, 2⟩) (meth := k12m2) (c := k12c2) (by decide +kernel) rfl rfl rfl (by decide +kernel)
set_option maxRecDepth 65536 in
theorem w_c11 : (Jvm.Cond.code ({ cls := "com/example/nudge/nudge/tree/Node", name := "text", desc := "()Ljava/lang/String;" } : Jvm.MethodName) prog_21_method_4_code (1 : Nat) (Option.some (Jvm.ClassFile.FieldType.object "java/lang/String"))).before args0 about1 = true := code_word (m := ⟨12, 3⟩) (meth := k12m3) (c := k12c3) (by decide +kernel) rfl rfl rfl (by decide +kernel)
set_option maxRecDepth 65536 in
theorem w_c12 : (Jvm.Cond.code ({ cls := "java/lang/String", name := "equals", desc := "(Ljava/lang/Object;)Z" } : Jvm.MethodName) jdk_42_method_66_code (3 : Nat) (Option.some Jvm.ClassFile.FieldType.boolean)).before args0 about1 = true := code_word (m := ⟨10, 2⟩) (meth := k10m2) (c := k10c2) (by decide +kernel) rfl rfl rfl (by decide +kernel)
set_option maxRecDepth 65536 in
theorem w_c13 : (Jvm.Cond.code ({ cls := "com/example/nudge/nudge/tree/Node", name := "size", desc := "()I" } : Jvm.MethodName) prog_21_method_10_code (1 : Nat) (Option.some Jvm.ClassFile.FieldType.int)).before args0 about1 = true := code_word (m := ⟨12, 5⟩) (meth := k12m5) (c := k12c5) (by decide +kernel) rfl rfl rfl (by decide +kernel)
set_option maxRecDepth 65536 in
theorem w_c14 : (Jvm.Cond.code ({ cls := "com/example/nudge/nudge/tree/Node", name := "get", desc := "(Ljava/lang/String;)Lcom/example/nudge/nudge/tree/Node;" } : Jvm.MethodName) prog_21_method_6_code (3 : Nat) (Option.some (Jvm.ClassFile.FieldType.object "com/example/nudge/nudge/tree/Node"))).before args0 about1 = true := code_word (m := ⟨12, 4⟩) (meth := k12m4) (c := k12c4) (by decide +kernel) rfl rfl rfl (by decide +kernel)
set_option maxRecDepth 65536 in
theorem w_c15 : (Jvm.Cond.code ({ cls := "com/example/nudge/nudge/tree/Node", name := "position", desc := "([Ljava/lang/String;ILjava/util/Map;Ljava/lang/String;)I" } : Jvm.MethodName) prog_21_method_15_code (6 : Nat) (Option.some Jvm.ClassFile.FieldType.int)).before args0 about1 = true := code_word (m := ⟨12, 6⟩) (meth := k12m6) (c := k12c6) (by decide +kernel) rfl rfl rfl (by decide +kernel)
set_option maxRecDepth 65536 in
theorem w_c16 : (Jvm.Cond.code ({ cls := "com/example/nudge/nudge/tree/Node", name := "isString", desc := "(Lcom/example/nudge/nudge/tree/Node;Ljava/lang/String;)Z" } : Jvm.MethodName) prog_21_method_19_code (2 : Nat) (Option.some Jvm.ClassFile.FieldType.boolean)).before args0 about1 = true := code_word (m := ⟨12, 7⟩) (meth := k12m7) (c := k12c7) (by decide +kernel) rfl rfl rfl (by decide +kernel)
set_option maxRecDepth 65536 in
theorem w_c17 : (Jvm.Cond.code ({ cls := "com/example/nudge/nudge/tree/Node", name := "isTrue", desc := "(Lcom/example/nudge/nudge/tree/Node;)Z" } : Jvm.MethodName) prog_21_method_20_code (1 : Nat) (Option.some Jvm.ClassFile.FieldType.boolean)).before args0 about1 = true := code_word (m := ⟨12, 8⟩) (meth := k12m8) (c := k12c8) (by decide +kernel) rfl rfl rfl (by decide +kernel)
set_option maxRecDepth 65536 in
theorem w_c18 : (Jvm.Cond.code ({ cls := "java/lang/StringLatin1", name := "equals", desc := "([B[B)Z" } : Jvm.MethodName) jdk_43_method_13_code (3 : Nat) (Option.some Jvm.ClassFile.FieldType.boolean)).before args0 about1 = true := code_word (m := ⟨13, 1⟩) (meth := k13m1) (c := k13c1) (by decide +kernel) rfl rfl rfl (by decide +kernel)
def codes1 : List Jvm.Cond := [Jvm.Cond.code x code maxLocals ret, Jvm.Cond.code ({ cls := "java/lang/Math", name := "min", desc := "(II)I" } : Jvm.MethodName) jdk_29_method_69_code (2 : Nat) (Option.some Jvm.ClassFile.FieldType.int), Jvm.Cond.code ({ cls := "java/lang/String", name := "<init>", desc := "([C)V" } : Jvm.MethodName) jdk_42_method_3_code (2 : Nat) (Option.none : Option Jvm.ClassFile.FieldType), Jvm.Cond.code ({ cls := "java/lang/String", name := "<init>", desc := "([CIILjava/lang/Void;)V" } : Jvm.MethodName) jdk_42_method_149_code (6 : Nat) (Option.none : Option Jvm.ClassFile.FieldType), Jvm.Cond.code ({ cls := "java/lang/Object", name := "<init>", desc := "()V" } : Jvm.MethodName) object_method_1_code (1 : Nat) (Option.none : Option Jvm.ClassFile.FieldType), Jvm.Cond.code ({ cls := "java/lang/StringUTF16", name := "compress", desc := "([CII)[B" } : Jvm.MethodName) jdk_52_method_16_code (6 : Nat) (Option.some (Jvm.ClassFile.FieldType.array Jvm.ClassFile.FieldType.byte)), Jvm.Cond.code ({ cls := "java/lang/StringUTF16", name := "compress", desc := "([CI[BII)I" } : Jvm.MethodName) jdk_52_method_21_code (7 : Nat) (Option.some Jvm.ClassFile.FieldType.int), Jvm.Cond.code ({ cls := "java/lang/StringUTF16", name := "coderFromArrayLen", desc := "([BI)B" } : Jvm.MethodName) jdk_52_method_15_code (2 : Nat) (Option.some Jvm.ClassFile.FieldType.byte), Jvm.Cond.code ({ cls := "com/example/nudge/nudge/tree/Node", name := "scalar", desc := "(Lcom/example/nudge/nudge/tree/Node$Kind;Ljava/lang/String;)Lcom/example/nudge/nudge/tree/Node;" } : Jvm.MethodName) prog_21_method_2_code (2 : Nat) (Option.some (Jvm.ClassFile.FieldType.object "com/example/nudge/nudge/tree/Node")), Jvm.Cond.code ({ cls := "com/example/nudge/nudge/tree/Node", name := "<init>", desc := "(Lcom/example/nudge/nudge/tree/Node$Kind;Ljava/lang/String;[Ljava/lang/String;[Lcom/example/nudge/nudge/tree/Node;[ILjava/util/Map;)V" } : Jvm.MethodName) prog_21_method_1_code (7 : Nat) (Option.none : Option Jvm.ClassFile.FieldType), Jvm.Cond.code ({ cls := "com/example/nudge/nudge/tree/Node", name := "kind", desc := "()Lcom/example/nudge/nudge/tree/Node$Kind;" } : Jvm.MethodName) prog_21_method_3_code (1 : Nat) (Option.some (Jvm.ClassFile.FieldType.object "com/example/nudge/nudge/tree/Node$Kind")), Jvm.Cond.code ({ cls := "com/example/nudge/nudge/tree/Node", name := "text", desc := "()Ljava/lang/String;" } : Jvm.MethodName) prog_21_method_4_code (1 : Nat) (Option.some (Jvm.ClassFile.FieldType.object "java/lang/String")), Jvm.Cond.code ({ cls := "java/lang/String", name := "equals", desc := "(Ljava/lang/Object;)Z" } : Jvm.MethodName) jdk_42_method_66_code (3 : Nat) (Option.some Jvm.ClassFile.FieldType.boolean), Jvm.Cond.code ({ cls := "com/example/nudge/nudge/tree/Node", name := "size", desc := "()I" } : Jvm.MethodName) prog_21_method_10_code (1 : Nat) (Option.some Jvm.ClassFile.FieldType.int), Jvm.Cond.code ({ cls := "com/example/nudge/nudge/tree/Node", name := "get", desc := "(Ljava/lang/String;)Lcom/example/nudge/nudge/tree/Node;" } : Jvm.MethodName) prog_21_method_6_code (3 : Nat) (Option.some (Jvm.ClassFile.FieldType.object "com/example/nudge/nudge/tree/Node")), Jvm.Cond.code ({ cls := "com/example/nudge/nudge/tree/Node", name := "position", desc := "([Ljava/lang/String;ILjava/util/Map;Ljava/lang/String;)I" } : Jvm.MethodName) prog_21_method_15_code (6 : Nat) (Option.some Jvm.ClassFile.FieldType.int), Jvm.Cond.code ({ cls := "com/example/nudge/nudge/tree/Node", name := "isString", desc := "(Lcom/example/nudge/nudge/tree/Node;Ljava/lang/String;)Z" } : Jvm.MethodName) prog_21_method_19_code (2 : Nat) (Option.some Jvm.ClassFile.FieldType.boolean), Jvm.Cond.code ({ cls := "com/example/nudge/nudge/tree/Node", name := "isTrue", desc := "(Lcom/example/nudge/nudge/tree/Node;)Z" } : Jvm.MethodName) prog_21_method_20_code (1 : Nat) (Option.some Jvm.ClassFile.FieldType.boolean), Jvm.Cond.code ({ cls := "java/lang/StringLatin1", name := "equals", desc := "([B[B)Z" } : Jvm.MethodName) jdk_43_method_13_code (3 : Nat) (Option.some Jvm.ClassFile.FieldType.boolean)]
set_option maxRecDepth 65536 in
theorem codes_eq : words1.filter isCode = codes1 := rfl
theorem w_codes : ∀ c ∈ words1.filter isCode, c.before args0 about1 = true := by
  rw [codes_eq]
  intro c hc
  simp only [codes1, List.mem_cons, List.not_mem_nil, or_false] at hc
  rcases hc with rfl | rfl | rfl | rfl | rfl | rfl | rfl | rfl | rfl | rfl | rfl | rfl | rfl | rfl | rfl | rfl | rfl | rfl | rfl
  · exact w_c0
  · exact w_c1
  · exact w_c2
  · exact w_c3
  · exact w_c4
  · exact w_c5
  · exact w_c6
  · exact w_c7
  · exact w_c8
  · exact w_c9
  · exact w_c10
  · exact w_c11
  · exact w_c12
  · exact w_c13
  · exact w_c14
  · exact w_c15
  · exact w_c16
  · exact w_c17
  · exact w_c18
set_option maxRecDepth 65536 in
theorem w_t1 : (words1.take 24).all (fun c => isCode c || c.before args0 about1) = true := by decide +kernel
set_option maxRecDepth 65536 in
theorem w_t2 : ((words1.drop 24).take 24).all (fun c => isCode c || c.before args0 about1) = true := by decide +kernel
set_option maxRecDepth 65536 in
theorem w_t3 : (((words1.drop 24).drop 24).take 24).all (fun c => isCode c || c.before args0 about1) = true := by decide +kernel
set_option maxRecDepth 65536 in
theorem w_t4 : ((((words1.drop 24).drop 24).drop 24).take 24).all (fun c => isCode c || c.before args0 about1) = true := by decide +kernel
set_option maxRecDepth 65536 in
theorem w_t5 : (((((words1.drop 24).drop 24).drop 24).drop 24).take 24).all (fun c => isCode c || c.before args0 about1) = true := by decide +kernel
set_option maxRecDepth 65536 in
theorem w_t6 : (((((words1.drop 24).drop 24).drop 24).drop 24).drop 24).all (fun c => isCode c || c.before args0 about1) = true := by decide +kernel
theorem w_tables : (allAtoms (Jvm.Cond.code x code maxLocals ret :: tables_1)).before args0 about1 = true := by
  rw [allAtoms_all]
  show words1.all (fun c => c.before args0 about1) = true
  refine all_split ?_ w_codes
  rw [← List.take_append_drop 24 words1, List.all_append, w_t1, ← List.take_append_drop 24 (words1.drop 24), List.all_append, w_t2, ← List.take_append_drop 24 ((words1.drop 24).drop 24), List.all_append, w_t3, ← List.take_append_drop 24 (((words1.drop 24).drop 24).drop 24), List.all_append, w_t4, ← List.take_append_drop 24 ((((words1.drop 24).drop 24).drop 24).drop 24), List.all_append, w_t5, w_t6]
  rfl
set_option maxRecDepth 65536 in
theorem w_rest : rest_1_c.before args0 about1 = true := by decide +kernel
set_option maxRecDepth 65536 in
theorem w_case : (Jvm.Cond.and given_1 narrow_1).before args0 about1 = true := by decide +kernel
set_option maxRecDepth 65536 in
theorem w_consts : constsHeld consts_1 about1 := Jvm.Lit.constsHeldB_iff.mp (by decide +kernel)
theorem w_applies : (headSpec (Jvm.Cond.code x code maxLocals ret :: tables_1) room_1).applies x e0.platform about1 = true :=
  (Spec.applies_iff w_frames).mpr ⟨w_running, w_runnable, w_alone, w_named, w_hears, w_ripe, w_room, w_tables⟩
theorem atStart : AtStart classFile x code maxLocals ret World_1 tables_1 room_1 Calls_1 rest_1 Pre_1 launch0 p0 e0 about1 theMethod args0 below0 :=
  ⟨lists_1, trivial, launch0.admits_env _ _ _, launch0.least_env, fairChoices_fair.cas, fairChoices_fair.clock, w_frames, w_args, w_heap, w_applies, ⟨w_consts, trivial⟩, w_rest, w_case⟩
end start1
theorem witness_1 : WitnessClaimed_1 := ⟨start1.p0, start1.e0, start1.about1, start1.theMethod, start1.args0, start1.below0, start1.atStart⟩
end Jvm.Pilot.@@N@@
