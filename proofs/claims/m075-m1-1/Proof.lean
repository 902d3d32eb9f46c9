import JvmDerived
import JvmDerived.Pilot.@@N@@Statement
import JvmDerived.Pilot.@@N@@Code
set_option linter.unusedVariables false
set_option linter.unusedSimpArgs false
@@BLOCK:LamKit.lean.txt@@
/- laws to paste: Road.backV (cut by pick.py; bodies as the Statement names them) -/
namespace Jvm.Pilot.@@N@@
namespace StrChars
open Jvm Sem ClassFile Op Lib Jvm.Stand Jvm.Free.XT Jvm.Free.ALB Jvm.Free.JM Jvm.Free
open Jvm.Lib.Cold (StaticIs)
/-- a char array whose places are chars -/
def Ch (a : Addr) (A : Cell) (U : State) : Prop := Arr .char a A U ∧ Typed .char A
theorem Ch.mv {a : Addr} {A : Cell} {U U' : State} (h : Ch a A U) (hal : U.vm.Alike U'.vm) (hh : U'.heap = U.heap) : Ch a A U' := ⟨h.1.mv hal hh, h.2⟩
theorem Ch.keep {a : Addr} {A : Cell} {U U' : State} (h : Ch a A U) (hal : U.vm.Alike U'.vm) (hk : U'.heap[a]? = some A) : Ch a A U' := ⟨h.1.keep hal hk, h.2⟩
/-- what place i of a char[]'s cell holds -/
def cv (A : Cell) (i : Nat) : Int32 := match A.slots[i]? with | some (.int x) => x | _ => 0
theorem Ch.get {a : Addr} {A : Cell} {U : State} (h : Ch a A U) {i : Nat} (hi : i < A.slots.size) : A.slots[i]? = some (.int (cv A i)) := by
  have e := Array.getElem?_eq_getElem hi
  have f := h.2 i _ e
  unfold cv; rw [e]
  generalize A.slots[i] = v at f
  cases v <;> simp [fits] at f ⊢
/-- the byte that i2b leaves of a char -/
def lo8 (x : Int32) : Int32 := x.toInt8.toInt32
theorem fits_lo8 (y : Int32) : fits .byte (.int (lo8 y)) = true := by
  have h1 := y.toInt8.le_toInt
  have h2 := y.toInt8.toInt_lt
  simp only [lo8, fits, Bool.and_eq_true, decide_eq_true_eq, Int32.le_iff_toInt_le, Int8.toInt_toInt32, show (-128 : Int32).toInt = -128 from by decide, show (127 : Int32).toInt = 127 from by decide]
  omega
/-- A' is A but that each place j of lo .. hi - 1 holds f j -/
def Laid (A A' : Cell) (lo hi : Nat) (f : Nat → Value) : Prop := A'.cls = A.cls ∧ A'.vm = A.vm ∧ A'.slots.size = A.slots.size ∧ ∀ i, A'.slots[i]? = if lo ≤ i ∧ i < hi then some (f i) else A.slots[i]?
theorem Laid.zero (A : Cell) (lo : Nat) (f : Nat → Value) : Laid A A lo (lo + 0) f := ⟨rfl, rfl, rfl, fun i => by rw [if_neg (by omega)]⟩
theorem Laid.step {A Ak : Cell} {lo k : Nat} {f : Nat → Value} {v : Value} (h : Laid A Ak lo k f) (hlo : lo ≤ k) (hk : k < Ak.slots.size) (hv : v = f k) : Laid A (Ak.setSlot k v) lo (k + 1) f := by
  refine ⟨h.1, h.2.1, by simpa [Cell.setSlot] using h.2.2.1, fun i => ?_⟩
  by_cases e : k = i
  · subst e; rw [Cell.slots_setSlot_self v hk, if_pos (by omega), hv]
  · rw [Cell.slots_setSlot_ne v e, h.2.2.2 i]
    by_cases q : lo ≤ i ∧ i < k
    · rw [if_pos q, if_pos (by omega)]
    · rw [if_neg q, if_neg (by omega)]
def U16 : String := "java/lang/StringUTF16"
namespace Cmp5
def yN : MethodName := ⟨"java/lang/StringUTF16", "compress", "([CI[BII)I"⟩
abbrev yB : ByteArray := jdk_52_method_21_code
theorem d0 : decode yB 0 = .ok (.iconst 0, 1) := by decide +kernel
theorem d1 : decode yB 1 = .ok (.istore 5, 2) := by decide +kernel
theorem d3 : decode yB 3 = .ok (.iload 5, 2) := by decide +kernel
theorem d5 : decode yB 5 = .ok (.iload 4, 2) := by decide +kernel
theorem d7 : decode yB 7 = .ok (.if_icmp (.ge) 37, 3) := by decide +kernel
theorem d10 : decode yB 10 = .ok (.aload_n 0, 1) := by decide +kernel
theorem d11 : decode yB 11 = .ok (.iload_n 1, 1) := by decide +kernel
theorem d12 : decode yB 12 = .ok (.caload, 1) := by decide +kernel
theorem d13 : decode yB 13 = .ok (.istore 6, 2) := by decide +kernel
theorem d15 : decode yB 15 = .ok (.iload 6, 2) := by decide +kernel
theorem d17 : decode yB 17 = .ok (.sipush 255, 3) := by decide +kernel
theorem d20 : decode yB 20 = .ok (.if_icmp (.le) 6, 3) := by decide +kernel
theorem d26 : decode yB 26 = .ok (.aload_n 2, 1) := by decide +kernel
theorem d27 : decode yB 27 = .ok (.iload_n 3, 1) := by decide +kernel
theorem d28 : decode yB 28 = .ok (.iload 6, 2) := by decide +kernel
theorem d30 : decode yB 30 = .ok (.i2b, 1) := by decide +kernel
theorem d31 : decode yB 31 = .ok (.bastore, 1) := by decide +kernel
theorem d32 : decode yB 32 = .ok (.iinc 1 1, 3) := by decide +kernel
theorem d35 : decode yB 35 = .ok (.iinc 3 1, 3) := by decide +kernel
theorem d38 : decode yB 38 = .ok (.iinc 5 1, 3) := by decide +kernel
theorem d41 : decode yB 41 = .ok (.goto (-38), 3) := by decide +kernel
theorem d44 : decode yB 44 = .ok (.iload 4, 2) := by decide +kernel
theorem d46 : decode yB 46 = .ok (.ireturn, 1) := by decide +kernel
def site : List Cond := []
def tab : Cond := tabOf yN yB 7 (some .int) site
def P (b : Addr) (A : Cell) (d : Addr) (B : Cell) (o q len : Nat) (args : Array Value) (s : State) : Prop := args = #[.ref b, .int (Int32.ofNat o), .ref d, .int (Int32.ofNat q), .int (Int32.ofNat len)] ∧ Ch b A s ∧ Arr .byte d B s ∧ b ≠ d ∧ o + len ≤ A.slots.size ∧ q + len ≤ B.slots.size ∧ ∀ i, i < len → ¬ 255 < cv A (o + i)
def E (b : Addr) (A : Cell) (d : Addr) (B : Cell) (o q len : Nat) (r : Option Value) (s u : State) : Prop := r = some (.int (Int32.ofNat len)) ∧ ∃ B', Put d B' s u ∧ Laid B B' q (q + len) (fun j => Value.int (lo8 (cv A (o + (j - q)))))
/-- no char of the range above 255: len; the places written hold each char's low byte -/
theorem law (l : Launch) (b : Addr) (A : Cell) (d : Addr) (B : Cell) (o q len : Nat) : Law l yN 5 5 0 0 yB 7 (some .int) site (P b A d B o q len) (E b A d B o q len) (copyLocs d q len) 0 0 := by
  refine Law.of_walk (plainFor_of_name (by decide +kernel)) (by decide +kernel) (by decide +kernel) (by decide) (fun _ _ h => by rw [h.1]; rfl) (fun _ U U' hal hh h => ⟨h.1, h.2.1.mv hal hh, h.2.2.1.mv hal hh, h.2.2.2⟩) (fun r U U' V V' h1 hal h2 h => ⟨h.1, h.2.elim fun B' q => ⟨B', q.1.mv h1 h2, q.2⟩⟩) ?_
  intro p e s m args below meth c s₁ X0 hexec hbytes hml hret hlk hnm hown hh0 W hP
  obtain ⟨rfl, hA, hB, hne, l1, l2, hp⟩ := hP
  have c1 : Steps p.tables e below (s₁.setTop (entryFrame m #[.ref b, .int (Int32.ofNat o), .ref d, .int (Int32.ofNat q), .int (Int32.ofNat len)] 7)) (s₁.setTop (mkF m 0 #[.val (.ref b), .val (.int (Int32.ofNat o)), .val (.ref d), .val (.int (Int32.ofNat q)), .val (.int (Int32.ofNat len)), .unset, .unset] [])) := entry rfl
  have hA0 := hA.1.mv X0.warmed.alike hh0
  have hB0 := hB.mv X0.warmed.alike hh0
  have a31 := hA.1.2.2.2
  have c2 : Steps p.tables e below (s₁.setTop (entryFrame m #[.ref b, .int (Int32.ofNat o), .ref d, .int (Int32.ofNat q), .int (Int32.ofNat len)] 7)) (s₁.setTop (mkF m 3 #[.val (.ref b), .val (.int (Int32.ofNat o)), .val (.ref d), .val (.int (Int32.ofNat q)), .val (.int (Int32.ofNat len)), .val (.int 0), .unset] [])) := c1.trans (by
    refine iconstV X0.here hexec rfl 0 (hb hbytes d0) (by decide) ?_
    refine XS.istore X0.here hexec rfl (hb hbytes d1) rfl rfl ?_
    exact Steps.refl _)
  have loop : ∀ (r i : Nat), i + r = len → ∀ (z : Slot), (z = .unset ∨ ∃ w, z = .val w ∧ w.category = 1) → ∀ (Tl : State) (Bk : Cell), Stand p l e { frames := 0, locals := 0, cells := 0, slots := 0 } s m #[.ref b, .int (Int32.ofNat o), .ref d, .int (Int32.ofNat q), .int (Int32.ofNat len)] below meth c Tl ([] ++ copyLocs d q i) 0 0 → Put d Bk s₁ Tl → Laid B Bk q (q + i) (fun j => Value.int (lo8 (cv A (o + (j - q))))) →
      Steps p.tables e below (s₁.setTop (entryFrame m #[.ref b, .int (Int32.ofNat o), .ref d, .int (Int32.ofNat q), .int (Int32.ofNat len)] 7)) (Tl.setTop (mkF m 3 #[.val (.ref b), .val (.int (Int32.ofNat (o + i))), .val (.ref d), .val (.int (Int32.ofNat (q + i))), .val (.int (Int32.ofNat len)), .val (.int (Int32.ofNat i)), z] [])) → ∃ (T' : State) (B' : Cell) (z' : Slot), Stand p l e { frames := 0, locals := 0, cells := 0, slots := 0 } s m #[.ref b, .int (Int32.ofNat o), .ref d, .int (Int32.ofNat q), .int (Int32.ofNat len)] below meth c T' ([] ++ copyLocs d q len) 0 0 ∧ Put d B' s₁ T' ∧ Laid B B' q (q + len) (fun j => Value.int (lo8 (cv A (o + (j - q))))) ∧
      Steps p.tables e below (s₁.setTop (entryFrame m #[.ref b, .int (Int32.ofNat o), .ref d, .int (Int32.ofNat q), .int (Int32.ofNat len)] 7)) (T'.setTop (mkF m 3 #[.val (.ref b), .val (.int (Int32.ofNat (o + len))), .val (.ref d), .val (.int (Int32.ofNat (q + len))), .val (.int (Int32.ofNat len)), .val (.int (Int32.ofNat len)), z'] [])) := by
    intro r
    induction r with
    | zero =>
      intro i hi z hz Tl Bk Xl pl fl cl
      have hil : i = len := by omega
      rw [hil] at Xl fl cl
      exact ⟨Tl, Bk, z, Xl, pl, fl, cl⟩
    | succ r ih =>
      intro i hi z hz Tl Bk Xl pl fl cl
      have all := X0.warmed.alike.symm.trans Xl.warmed.alike
      have hAl := hA0.keep all (pl.other hne hA0.1)
      have hBk := hB0.like all pl.1 fl.1 fl.2.1 fl.2.2.1
      have hlt : q + i < Bk.slots.size := by rw [fl.2.2.1]; omega
      have c3 : Steps p.tables e below (s₁.setTop (entryFrame m #[.ref b, .int (Int32.ofNat o), .ref d, .int (Int32.ofNat q), .int (Int32.ofNat len)] 7)) (Tl.setTop (mkF m 12 #[.val (.ref b), .val (.int (Int32.ofNat (o + i))), .val (.ref d), .val (.int (Int32.ofNat (q + i))), .val (.int (Int32.ofNat len)), .val (.int (Int32.ofNat i)), z] [.int (Int32.ofNat (o + i)), .ref b])) := cl.trans (by
        refine XS.iload Xl.here hexec rfl (hb hbytes d3) rfl ?_
        refine XS.iload Xl.here hexec rfl (hb hbytes d5) rfl ?_
        refine XS.icmpNo Xl.here hexec rfl (hb hbytes d7) rfl (ii_ge_f (lt32 (by omega) (by omega))) ?_
        refine XS.aloadN Xl.here hexec rfl (hb hbytes d10) rfl rfl ?_
        refine XS.iloadN Xl.here hexec rfl (hb hbytes d11) rfl ?_
        exact Steps.refl _)
      have c4 : Steps p.tables e below (s₁.setTop (entryFrame m #[.ref b, .int (Int32.ofNat o), .ref d, .int (Int32.ofNat q), .int (Int32.ofNat len)] 7)) (Tl.setTop (mkF m 13 #[.val (.ref b), .val (.int (Int32.ofNat (o + i))), .val (.ref d), .val (.int (Int32.ofNat (q + i))), .val (.int (Int32.ofNat len)), .val (.int (Int32.ofNat i)), z] [.int (cv A (o + i))])) := c3.trans (by
        refine Xl.aget hexec hAl rfl (hA.get (i := o + i) (by omega)) rfl rfl (hb hbytes d12) ?_
        exact Steps.refl _)
      have c5 : Steps p.tables e below (s₁.setTop (entryFrame m #[.ref b, .int (Int32.ofNat o), .ref d, .int (Int32.ofNat q), .int (Int32.ofNat len)] 7)) (Tl.setTop (mkF m 15 #[.val (.ref b), .val (.int (Int32.ofNat (o + i))), .val (.ref d), .val (.int (Int32.ofNat (q + i))), .val (.int (Int32.ofNat len)), .val (.int (Int32.ofNat i)), .val (.int (cv A (o + i)))] [])) := c4.trans (by
        refine XS.istoreS Xl.here hexec rfl (hb hbytes d13) rfl rfl hz ?_
        exact Steps.refl _)
      have c6 : Steps p.tables e below (s₁.setTop (entryFrame m #[.ref b, .int (Int32.ofNat o), .ref d, .int (Int32.ofNat q), .int (Int32.ofNat len)] 7)) (Tl.setTop (mkF m 31 #[.val (.ref b), .val (.int (Int32.ofNat (o + i))), .val (.ref d), .val (.int (Int32.ofNat (q + i))), .val (.int (Int32.ofNat len)), .val (.int (Int32.ofNat i)), .val (.int (cv A (o + i)))] [.int (lo8 (cv A (o + i))), .int (Int32.ofNat (q + i)), .ref d])) := c5.trans (by
        refine XS.iload Xl.here hexec rfl (hb hbytes d15) rfl ?_
        refine sipushV Xl.here hexec rfl 255 (hb hbytes d17) (by decide) ?_
        refine XS.icmpYes Xl.here hexec rfl (pc0 := 20) rfl (hb hbytes d20) rfl (ii_le_t (hp i (by omega))) (by decide) rfl ?_
        refine XS.aloadN Xl.here hexec rfl (hb hbytes d26) rfl rfl ?_
        refine XS.iloadN Xl.here hexec rfl (hb hbytes d27) rfl ?_
        refine XS.iload Xl.here hexec rfl (hb hbytes d28) rfl ?_
        refine i2b Xl.here hexec rfl (hb hbytes d30) rfl ?_
        exact Steps.refl _)
      obtain ⟨T7, X7, p7, st7⟩ := Xl.aput hexec hBk rfl hlt rfl (fits_lo8 (cv A (o + i))) (g := (mkF m 31 #[.val (.ref b), .val (.int (Int32.ofNat (o + i))), .val (.ref d), .val (.int (Int32.ofNat (q + i))), .val (.int (Int32.ofNat len)), .val (.int (Int32.ofNat i)), .val (.int (cv A (o + i)))] [.int (lo8 (cv A (o + i))), .int (Int32.ofNat (q + i)), .ref d])) rfl (rest := []) rfl (hb hbytes d31)
      have c8 : Steps p.tables e below (s₁.setTop (entryFrame m #[.ref b, .int (Int32.ofNat o), .ref d, .int (Int32.ofNat q), .int (Int32.ofNat len)] 7)) (T7.setTop (mkF m 32 #[.val (.ref b), .val (.int (Int32.ofNat (o + i))), .val (.ref d), .val (.int (Int32.ofNat (q + i))), .val (.int (Int32.ofNat len)), .val (.int (Int32.ofNat i)), .val (.int (cv A (o + i)))] [])) := c6.trans (st7 _ (Steps.refl _))
      have c9 : Steps p.tables e below (s₁.setTop (entryFrame m #[.ref b, .int (Int32.ofNat o), .ref d, .int (Int32.ofNat q), .int (Int32.ofNat len)] 7)) (T7.setTop (mkF m 3 #[.val (.ref b), .val (.int (Int32.ofNat (o + i) + 1)), .val (.ref d), .val (.int (Int32.ofNat (q + i) + 1)), .val (.int (Int32.ofNat len)), .val (.int (Int32.ofNat i + 1)), .val (.int (cv A (o + i)))] [])) := c8.trans (by
        refine iincV X7.here hexec rfl 1 (hb hbytes d32) (by decide) rfl rfl ?_
        refine iincV X7.here hexec rfl 1 (hb hbytes d35) (by decide) rfl rfl ?_
        refine iincV X7.here hexec rfl 1 (hb hbytes d38) (by decide) rfl rfl ?_
        refine XS.goto X7.here hexec rfl (pc0 := 41) rfl (hb hbytes d41) (by decide) rfl ?_
        exact Steps.refl _)
      have c10 : Steps p.tables e below (s₁.setTop (entryFrame m #[.ref b, .int (Int32.ofNat o), .ref d, .int (Int32.ofNat q), .int (Int32.ofNat len)] 7)) (T7.setTop (mkF m 3 #[.val (.ref b), .val (.int (Int32.ofNat (o + (i + 1)))), .val (.ref d), .val (.int (Int32.ofNat (q + (i + 1)))), .val (.int (Int32.ofNat len)), .val (.int (Int32.ofNat (i + 1))), .val (.int (cv A (o + i)))] [])) := by
        have := c9
        rw [succ32, succ32, succ32] at this
        exact this
      exact ih (i + 1) (by omega) _ (Or.inr ⟨_, rfl, rfl⟩) T7 _ (by rw [copyLocs_step, ← List.append_assoc]; exact X7) (pl.trans p7) (fl.step (by omega) hlt (by simp)) c10
  obtain ⟨T9, B9, z9, X9, p9, f9, g9⟩ := loop len 0 (by omega) .unset (Or.inl rfl) s₁ B (by simpa [copyLocs] using X0) ⟨hB0.1, fun _ _ => rfl, rfl⟩ (Laid.zero _ _ _) c2
  have c11 : Steps p.tables e below (s₁.setTop (entryFrame m #[.ref b, .int (Int32.ofNat o), .ref d, .int (Int32.ofNat q), .int (Int32.ofNat len)] 7)) (T9.setTop (mkF m 46 #[.val (.ref b), .val (.int (Int32.ofNat (o + len))), .val (.ref d), .val (.int (Int32.ofNat (q + len))), .val (.int (Int32.ofNat len)), .val (.int (Int32.ofNat len)), z9] [.int (Int32.ofNat len)])) := g9.trans (by
    refine XS.iload X9.here hexec rfl (hb hbytes d3) rfl ?_
    refine XS.iload X9.here hexec rfl (hb hbytes d5) rfl ?_
    refine XS.icmpYes X9.here hexec rfl (pc0 := 7) rfl (hb hbytes d7) rfl (ii_ge_t (nlt32 (by omega) (Nat.le_refl _))) (by decide) rfl ?_
    refine XS.iload X9.here hexec rfl (hb hbytes d44) rfl ?_
    exact Steps.refl _)
  exact ⟨T9, some (.int (Int32.ofNat len)), _, _, _, X9, by simp, rfl, rfl, (fun h => by cases h), ⟨rfl, B9, p9.from hh0, f9⟩, fun fs hl => c11.trans (X9.ireturnOut hexec hret rfl (Or.inl rfl) (hb hbytes d46) hl)⟩
end Cmp5
namespace Cmp3
def yN : MethodName := ⟨"java/lang/StringUTF16", "compress", "([CII)[B"⟩
abbrev yB : ByteArray := jdk_52_method_16_code
theorem d0 : decode yB 0 = .ok (.iload_n 2, 1) := by decide +kernel
theorem d1 : decode yB 1 = .ok (.newarray .byte, 2) := by decide +kernel
theorem d3 : decode yB 3 = .ok (.astore_n 3, 1) := by decide +kernel
theorem d4 : decode yB 4 = .ok (.aload_n 0, 1) := by decide +kernel
theorem d5 : decode yB 5 = .ok (.iload_n 1, 1) := by decide +kernel
theorem d6 : decode yB 6 = .ok (.aload_n 3, 1) := by decide +kernel
theorem d7 : decode yB 7 = .ok (.iconst 0, 1) := by decide +kernel
theorem d8 : decode yB 8 = .ok (.iload_n 2, 1) := by decide +kernel
theorem d9 : decode yB 9 = .ok (.invokestatic 115, 3) := by decide +kernel
theorem d12 : decode yB 12 = .ok (.istore 4, 2) := by decide +kernel
theorem d14 : decode yB 14 = .ok (.iload 4, 2) := by decide +kernel
theorem d16 : decode yB 16 = .ok (.iload_n 2, 1) := by decide +kernel
theorem d17 : decode yB 17 = .ok (.if_icmp (.eq) 40, 3) := by decide +kernel
theorem d57 : decode yB 57 = .ok (.aload_n 3, 1) := by decide +kernel
theorem d58 : decode yB 58 = .ok (.areturn, 1) := by decide +kernel
def site : List Cond := [.arrayClass .byte, Cmp5.tab] ++ staticW U16 115 Cmp5.yN
def tab : Cond := tabOf yN yB 6 (some (.array .byte)) site
def P (b : Addr) (A : Cell) (o len : Nat) (args : Array Value) (s : State) : Prop := args = #[.ref b, .int (Int32.ofNat o), .int (Int32.ofNat len)] ∧ Ch b A s ∧ o + len ≤ A.slots.size ∧ len ≤ 536870912 ∧ ∀ i, i < len → ¬ 255 < cv A (o + i)
def E (b : Addr) (A : Cell) (o len : Nat) (r : Option Value) (s u : State) : Prop := NewArr .byte "[B" len (fun j => .int (lo8 (cv A (o + j)))) r s u ∧ u.heap.size = s.heap.size + 1
/-- no char of the range above 255: a new byte[] of their low bytes -/
theorem law (l : Launch) (b : Addr) (A : Cell) (o len : Nat) : Law l yN 3 3 1 18 yB 6 (some (.array .byte)) site (P b A o len) (E b A o len) [] 1 len := by
  refine Law.of_walk (plainFor_of_name (by decide +kernel)) (by decide +kernel) (by decide +kernel) (by decide) (fun _ _ h => by rw [h.1]; rfl) (fun _ U U' hal hh h => ⟨h.1, h.2.1.mv hal hh, h.2.2⟩) (fun r U U' V V' h1 hal h2 h => ⟨NewArr.mv r U U' V V' h1 hal h2 h.1, by rw [h1, h2]; exact h.2⟩) ?_
  intro p e s m args below meth c s₁ X0 hexec hbytes hml hret hlk hnm hown hh0 W hP
  obtain ⟨rfl, hA, l1, l2, hp⟩ := hP
  have a31 := hA.1.2.2.2
  have c1 : Steps p.tables e below (s₁.setTop (entryFrame m #[.ref b, .int (Int32.ofNat o), .int (Int32.ofNat len)] 6)) (s₁.setTop (mkF m 0 #[.val (.ref b), .val (.int (Int32.ofNat o)), .val (.int (Int32.ofNat len)), .unset, .unset, .unset] [])) := entry rfl
  have c2 : Steps p.tables e below (s₁.setTop (entryFrame m #[.ref b, .int (Int32.ofNat o), .int (Int32.ofNat len)] 6)) (s₁.setTop (mkF m 1 #[.val (.ref b), .val (.int (Int32.ofNat o)), .val (.int (Int32.ofNat len)), .unset, .unset, .unset] [.int (Int32.ofNat len)])) := c1.trans (by
    refine XS.iloadN X0.here hexec rfl (hb hbytes d0) rfl ?_
    exact Steps.refl _)
  obtain ⟨T3, B3, X3, ba3, bs3, bv3, bh3, bf3, st3⟩ := X0.anew hexec (atype := .byte) (wk W (.arrayClass .byte)) rfl (by show len * 1 ≤ _; omega) (by omega) (g := (mkF m 1 #[.val (.ref b), .val (.int (Int32.ofNat o)), .val (.int (Int32.ofNat len)), .unset, .unset, .unset] [.int (Int32.ofNat len)])) rfl (hb hbytes d1) (rest := []) rfl (Nat.le_refl _) (by show 0 + len ≤ len; omega)
  rw [hh0] at ba3 st3
  have kp3 : XT.Kept s T3 := (XT.Kept.of_eq hh0).push bh3
  have hA3 := hA.keep X3.warmed.alike (kp3 _ _ hA.1.1)
  have hne : b ≠ s.heap.size := hA.1.ne
  have c4 : Steps p.tables e below (s₁.setTop (entryFrame m #[.ref b, .int (Int32.ofNat o), .int (Int32.ofNat len)] 6)) (T3.setTop (mkF m 3 #[.val (.ref b), .val (.int (Int32.ofNat o)), .val (.int (Int32.ofNat len)), .unset, .unset, .unset] [.ref s.heap.size])) := c2.trans (st3 _ (Steps.refl _))
  have c5 : Steps p.tables e below (s₁.setTop (entryFrame m #[.ref b, .int (Int32.ofNat o), .int (Int32.ofNat len)] 6)) (T3.setTop (mkF m 9 #[.val (.ref b), .val (.int (Int32.ofNat o)), .val (.int (Int32.ofNat len)), .val (.ref s.heap.size), .unset, .unset] [.int (Int32.ofNat len), .int 0, .ref s.heap.size, .int (Int32.ofNat o), .ref b])) := c4.trans (by
    refine XS.astoreN X3.here hexec rfl (hb hbytes d3) rfl rfl rfl ?_
    refine XS.aloadN X3.here hexec rfl (hb hbytes d4) rfl rfl ?_
    refine XS.iloadN X3.here hexec rfl (hb hbytes d5) rfl ?_
    refine XS.aloadN X3.here hexec rfl (hb hbytes d6) rfl rfl ?_
    refine iconstV X3.here hexec rfl 0 (hb hbytes d7) (by decide) ?_
    refine XS.iloadN X3.here hexec rfl (hb hbytes d8) rfl ?_
    exact Steps.refl _)
  obtain ⟨v6, T6, X6, E6, g6⟩ := X3.callS hexec (Cmp5.law l b A s.heap.size B3 o 0 len) hown (wks W (staticW U16 115 Cmp5.yN)) (wk W Cmp5.tab) (W := 0) (Nat.le_of_ble_eq_true rfl) (Nat.le_of_ble_eq_true rfl) (Nat.le_refl _) (by show 0 + len + 0 ≤ len; omega) (g := (mkF m 9 #[.val (.ref b), .val (.int (Int32.ofNat o)), .val (.int (Int32.ofNat len)), .val (.ref s.heap.size), .unset, .unset] [.int (Int32.ofNat len), .int (Int32.ofNat 0), .ref s.heap.size, .int (Int32.ofNat o), .ref b])) rfl (by rw [hml]; rfl) c5 (argsL := [.ref b, .int (Int32.ofNat o), .ref s.heap.size, .int (Int32.ofNat 0), .int (Int32.ofNat len)]) (rest := []) rfl rfl (by show 2 * 0 + 0 ≤ _; decide) (hb hbytes d9) (⟨rfl, hA3, ba3, hne, l1, by rw [bs3]; simp, hp⟩)
  obtain ⟨rfl, B6, p6, f6⟩ := E6
  have c7 : Steps p.tables e below (s₁.setTop (entryFrame m #[.ref b, .int (Int32.ofNat o), .int (Int32.ofNat len)] 6)) (T6.setTop (mkF m 12 #[.val (.ref b), .val (.int (Int32.ofNat o)), .val (.int (Int32.ofNat len)), .val (.ref s.heap.size), .unset, .unset] [.int (Int32.ofNat len)])) := g6
  have c8 : Steps p.tables e below (s₁.setTop (entryFrame m #[.ref b, .int (Int32.ofNat o), .int (Int32.ofNat len)] 6)) (T6.setTop (mkF m 58 #[.val (.ref b), .val (.int (Int32.ofNat o)), .val (.int (Int32.ofNat len)), .val (.ref s.heap.size), .val (.int (Int32.ofNat len)), .unset] [.ref s.heap.size])) := c7.trans (by
    refine XS.istore X6.here hexec rfl (hb hbytes d12) rfl rfl ?_
    refine XS.iload X6.here hexec rfl (hb hbytes d14) rfl ?_
    refine XS.iloadN X6.here hexec rfl (hb hbytes d16) rfl ?_
    refine XS.icmpYes X6.here hexec rfl (pc0 := 17) rfl (hb hbytes d17) rfl (ii_eq_t rfl) (by decide) rfl ?_
    refine XS.aloadN X6.here hexec rfl (hb hbytes d57) rfl rfl ?_
    exact Steps.refl _)
  have X8 := X6.wide (L' := []) (cells' := 1) (slots' := len) (fun x hx hlt => by
    simp only [List.nil_append, copyLocs, List.mem_map, List.mem_range] at hx
    obtain ⟨i, -, rfl⟩ := hx
    exact absurd hlt (Nat.lt_irrefl _)) (Nat.le_refl _) (by omega)
  exact ⟨T6, some (.ref s.heap.size), _, _, _, X8, rfl, rfl, rfl, (fun h => by cases h), ⟨⟨rfl, B6, ba3.like (X3.warmed.alike.symm.trans X6.warmed.alike) p6.1 f6.1 f6.2.1 f6.2.2.1, f6.2.1.trans bv3, by rw [X6.warmed.alike.findClass, f6.1]; exact bf3, by rw [f6.2.2.1, bs3]; simp, fun j hj => by rw [f6.2.2.2 j, if_pos (by omega)]; rfl, kp3.put p6 (Nat.le_refl _)⟩, by rw [p6.2.2, bh3, hh0]; simp⟩, fun fs hl => c8.trans (X8.areturnOut hexec rfl hret rfl (hb hbytes d58) hl)⟩
end Cmp3
namespace CodL
def yN : MethodName := ⟨"java/lang/StringUTF16", "coderFromArrayLen", "([BI)B"⟩
abbrev yB : ByteArray := jdk_52_method_15_code
theorem d0 : decode yB 0 = .ok (.iload_n 1, 1) := by decide +kernel
theorem d1 : decode yB 1 = .ok (.aload_n 0, 1) := by decide +kernel
theorem d2 : decode yB 2 = .ok (.arraylength, 1) := by decide +kernel
theorem d3 : decode yB 3 = .ok (.isub, 1) := by decide +kernel
theorem d4 : decode yB 4 = .ok (.bipush 31, 2) := by decide +kernel
theorem d6 : decode yB 6 = .ok (.iushr, 1) := by decide +kernel
theorem d7 : decode yB 7 = .ok (.i2b, 1) := by decide +kernel
theorem d8 : decode yB 8 = .ok (.ireturn, 1) := by decide +kernel
def site : List Cond := []
def tab : Cond := tabOf yN yB 2 (some .byte) site
def P (d : Addr) (B : Cell) (args : Array Value) (s : State) : Prop := args = #[.ref d, .int (Int32.ofNat B.slots.size)] ∧ Arr .byte d B s
def E (r : Option Value) (s u : State) : Prop := XT.PureE (some (.int 0)) r s u
/-- an array as long as the number of chars: LATIN1 -/
theorem law (l : Launch) (d : Addr) (B : Cell) : Law l yN 2 2 0 0 yB 2 (some .byte) site (P d B) E [] 0 0 := by
  refine Law.of_walk (plainFor_of_name (by decide +kernel)) (by decide +kernel) (by decide +kernel) (by decide) (fun _ _ h => by rw [h.1]; rfl) (fun _ U U' hal hh h => ⟨h.1, h.2.mv hal hh⟩) (fun r U U' V V' h1 hal h2 h => XT.PureE.mv r U U' V V' h1 hal h2 h) ?_
  intro p e s m args below meth c s₁ X0 hexec hbytes hml hret hlk hnm hown hh0 W hP
  obtain ⟨rfl, hB⟩ := hP
  have hB0 := hB.mv X0.warmed.alike hh0
  have c1 : Steps p.tables e below (s₁.setTop (entryFrame m #[.ref d, .int (Int32.ofNat B.slots.size)] 2)) (s₁.setTop (mkF m 0 #[.val (.ref d), .val (.int (Int32.ofNat B.slots.size))] [])) := entry rfl
  have c2 : Steps p.tables e below (s₁.setTop (entryFrame m #[.ref d, .int (Int32.ofNat B.slots.size)] 2)) (s₁.setTop (mkF m 2 #[.val (.ref d), .val (.int (Int32.ofNat B.slots.size))] [.ref d, .int (Int32.ofNat B.slots.size)])) := c1.trans (by
    refine XS.iloadN X0.here hexec rfl (hb hbytes d0) rfl ?_
    refine XS.aloadN X0.here hexec rfl (hb hbytes d1) rfl rfl ?_
    exact Steps.refl _)
  have c3 : Steps p.tables e below (s₁.setTop (entryFrame m #[.ref d, .int (Int32.ofNat B.slots.size)] 2)) (s₁.setTop (mkF m 8 #[.val (.ref d), .val (.int (Int32.ofNat B.slots.size))] [.int (lo8 (ushr (Int32.ofNat B.slots.size - Int32.ofNat B.slots.size) 31))])) := c2.trans (by
    refine X0.alen hexec hB0 rfl rfl (hb hbytes d2) ?_
    refine XS.isub X0.here hexec rfl (hb hbytes d3) rfl ?_
    refine bipushV X0.here hexec rfl 31 (hb hbytes d4) (by decide) ?_
    refine iushr X0.here hexec rfl (hb hbytes d6) rfl ?_
    refine i2b X0.here hexec rfl (hb hbytes d7) rfl ?_
    exact Steps.refl _)
  have e0 : lo8 (ushr (Int32.ofNat B.slots.size - Int32.ofNat B.slots.size) 31) = 0 := by rw [Int32.sub_self]; decide
  rw [e0] at c3
  exact ⟨s₁, some (.int 0), _, _, _, X0, rfl, rfl, rfl, (fun h => by cases h), ⟨rfl, hh0⟩, fun fs hl => c3.trans (X0.ireturnOut hexec hret rfl (Or.inr (Or.inr (Or.inl rfl))) (hb hbytes d8) hl)⟩
end CodL
/-- the String at a is Latin-1 over a new byte[] (the heap's one new cell): the low bytes of the len chars of A from o on; every cell but a is kept -/
def Got (a : Addr) (D : Cell) (fV fC : Field) (A : Cell) (o len : Nat) (r : Option Value) (s u : State) : Prop := r = none ∧ ∃ D' V : Cell, Blank "java/lang/String" a D' u ∧ Same D D' [fV.slot, fC.slot] ∧ D'.slots[fV.slot]? = some (.ref s.heap.size) ∧ D'.slots[fC.slot]? = some (.int 0) ∧ Arr .byte s.heap.size V u ∧ V.vm = .none ∧ u.vm.findClass "[B" = some V.cls ∧ V.slots.size = len ∧ (∀ j, j < len → V.slots[j]? = some (.int (lo8 (cv A (o + j))))) ∧ (∀ (y : Addr) (c : Cell), y ≠ a → s.heap[y]? = some c → u.heap[y]? = some c) ∧ u.heap.size = s.heap.size + 1
theorem Got.mv {a : Addr} {D A : Cell} {fV fC : Field} {o len : Nat} : ∀ r (U U' V V' : State), U'.heap = U.heap → V.vm.Alike V'.vm → V'.heap = V.heap → Got a D fV fC A o len r U V → Got a D fV fC A o len r U' V' :=
  fun r U U' V V' h1 hal h2 ⟨e0, D', X, a1, a2, a3, a4, a5, a6, a7, a8, a9, a10, a11⟩ => ⟨e0, D', X, a1.mv hal h2, a2, by rw [h1]; exact a3, a4, by rw [h1]; exact a5.mv hal h2, a6, by rw [hal.findClass]; exact a7, a8, a9, by rw [h1, h2]; exact a10, by rw [h1, h2]; exact a11⟩
namespace New4
def yN : MethodName := ⟨"java/lang/String", "<init>", "([CIILjava/lang/Void;)V"⟩
abbrev yB : ByteArray := jdk_42_method_149_code
theorem d0 : decode yB 0 = .ok (.aload_n 0, 1) := by decide +kernel
theorem d1 : decode yB 1 = .ok (.invokespecial 1, 3) := by decide +kernel
theorem d4 : decode yB 4 = .ok (.iload_n 3, 1) := by decide +kernel
theorem d5 : decode yB 5 = .ok (.ifCond (.ne) 22, 3) := by decide +kernel
theorem d27 : decode yB 27 = .ok (.getstatic 38, 3) := by decide +kernel
theorem d30 : decode yB 30 = .ok (.ifCond (.eq) 28, 3) := by decide +kernel
theorem d33 : decode yB 33 = .ok (.aload_n 1, 1) := by decide +kernel
theorem d34 : decode yB 34 = .ok (.iload_n 2, 1) := by decide +kernel
theorem d35 : decode yB 35 = .ok (.iload_n 3, 1) := by decide +kernel
theorem d36 : decode yB 36 = .ok (.invokestatic 177, 3) := by decide +kernel
theorem d39 : decode yB 39 = .ok (.astore 5, 2) := by decide +kernel
theorem d41 : decode yB 41 = .ok (.aload_n 0, 1) := by decide +kernel
theorem d42 : decode yB 42 = .ok (.aload 5, 2) := by decide +kernel
theorem d44 : decode yB 44 = .ok (.iload_n 3, 1) := by decide +kernel
theorem d45 : decode yB 45 = .ok (.invokestatic 47, 3) := by decide +kernel
theorem d48 : decode yB 48 = .ok (.putfield 15, 3) := by decide +kernel
theorem d51 : decode yB 51 = .ok (.aload_n 0, 1) := by decide +kernel
theorem d52 : decode yB 52 = .ok (.aload 5, 2) := by decide +kernel
theorem d54 : decode yB 54 = .ok (.putfield 9, 3) := by decide +kernel
theorem d57 : decode yB 57 = .ok (.return_, 1) := by decide +kernel
def site : List Cond := [.fieldLink "java/lang/String" 38 "java/lang/String" "COMPACT_STRINGS" "Z", Cmp3.tab, CodL.tab, .laysFinal "java/lang/String" "java/lang/String" "value" "[B", .fieldLink "java/lang/String" 9 "java/lang/String" "value" "[B", .laysFinal "java/lang/String" "java/lang/String" "coder" "B", .fieldLink "java/lang/String" 15 "java/lang/String" "coder" "B"] ++ objW "java/lang/String" 1 ++ staticW "java/lang/String" 177 Cmp3.yN ++ staticW "java/lang/String" 47 CodL.yN
def tab : Cond := tabOf yN yB 6 none site
def P (a : Addr) (D : Cell) (fV fC : Field) (b : Addr) (A : Cell) (z : Int32) (o len : Nat) (args : Array Value) (s : State) : Prop := args = #[.ref a, .ref b, .int (Int32.ofNat o), .int (Int32.ofNat len), .null] ∧ Blank "java/lang/String" a D s ∧ Found "java/lang/String" "value" "[B" fV s ∧ Found "java/lang/String" "coder" "B" fC s ∧ Ch b A s ∧ StaticIs s "java/lang/String" "COMPACT_STRINGS" "Z" (.int z) ∧ ¬ z = 0 ∧ 0 < len ∧ o + len ≤ A.slots.size ∧ len ≤ 536870912 ∧ ∀ i, i < len → ¬ 255 < cv A (o + i)
def E (a : Addr) (D : Cell) (fV fC : Field) (A : Cell) (o len : Nat) (r : Option Value) (s u : State) : Prop := Got a D fV fC A o len r s u
/-- len > 0, no char of the range above 255: a Latin-1 String of their low bytes -/
theorem law (l : Launch) (a : Addr) (D : Cell) (fV fC : Field) (b : Addr) (A : Cell) (z : Int32) (o len : Nat) : Law l yN 5 4 2 35 yB 6 none site (P a D fV fC b A z o len) (E a D fV fC A o len) [⟨a, fC.slot⟩, ⟨a, fV.slot⟩] 1 len := by
  refine Law.of_walk (plainFor_of_name (by decide +kernel)) (by decide +kernel) (by decide +kernel) (by decide) (fun _ _ h => by rw [h.1]; rfl) (fun _ U U' hal hh h => ⟨h.1, h.2.1.mv hal hh, h.2.2.1.al hal, h.2.2.2.1.al hal, h.2.2.2.2.1.mv hal hh, h.2.2.2.2.2.1.there hal hh, h.2.2.2.2.2.2⟩) (fun r U U' V V' h1 hal h2 h => Got.mv r U U' V V' h1 hal h2 h) ?_
  intro p e s m args below meth c s₁ X0 hexec hbytes hml hret hlk hnm hown hh0 W hP
  obtain ⟨rfl, hB, f1, f2, hA, s1, hz, l0, l1, l2, hp⟩ := hP
  have a31 := hA.1.2.2.2
  have c1 : Steps p.tables e below (s₁.setTop (entryFrame m #[.ref a, .ref b, .int (Int32.ofNat o), .int (Int32.ofNat len), .null] 6)) (s₁.setTop (mkF m 0 #[.val (.ref a), .val (.ref b), .val (.int (Int32.ofNat o)), .val (.int (Int32.ofNat len)), .val .null, .unset] [])) := entry rfl
  have c2 : Steps p.tables e below (s₁.setTop (entryFrame m #[.ref a, .ref b, .int (Int32.ofNat o), .int (Int32.ofNat len), .null] 6)) (s₁.setTop (mkF m 1 #[.val (.ref a), .val (.ref b), .val (.int (Int32.ofNat o)), .val (.int (Int32.ofNat len)), .val .null, .unset] [.ref a])) := c1.trans (by
    refine XS.aloadN X0.here hexec rfl (hb hbytes d0) rfl rfl ?_
    exact Steps.refl _)
  obtain ⟨T3, X3, q3, st3⟩ := X0.oinit hexec hown (wks W (objW "java/lang/String" 1)) (g := (mkF m 1 #[.val (.ref a), .val (.ref b), .val (.int (Int32.ofNat o)), .val (.int (Int32.ofNat len)), .val .null, .unset] [.ref a])) rfl (by rw [hml]; rfl) (rest := []) rfl (hb hbytes d1) (W := 0) (by show 2 * 0 + 0 ≤ _; decide) (Nat.le_of_ble_eq_true rfl) (Nat.le_of_ble_eq_true rfl)
  have hh3 := q3.trans hh0
  have c4 : Steps p.tables e below (s₁.setTop (entryFrame m #[.ref a, .ref b, .int (Int32.ofNat o), .int (Int32.ofNat len), .null] 6)) (T3.setTop (mkF m 27 #[.val (.ref a), .val (.ref b), .val (.int (Int32.ofNat o)), .val (.int (Int32.ofNat len)), .val .null, .unset] [])) := (c2.trans (st3 _ (Steps.refl _))).trans (by
    refine XS.iloadN X3.here hexec rfl (hb hbytes d4) rfl ?_
    refine XS.ifYes X3.here hexec rfl (pc0 := 5) rfl (hb hbytes d5) rfl (i0_ne_t (nz32 (by omega) l0)) (by decide) rfl ?_
    exact Steps.refl _)
  obtain ⟨T5, X5, q5, st5⟩ := X3.sget hexec hown (wk W (.fieldLink "java/lang/String" 38 "java/lang/String" "COMPACT_STRINGS" "Z")) s1 (fun _ _ h => by rw [hh3]; exact h) (g := (mkF m 27 #[.val (.ref a), .val (.ref b), .val (.int (Int32.ofNat o)), .val (.int (Int32.ofNat len)), .val .null, .unset] [])) rfl (hb hbytes d27)
  have hh5 := q5.trans hh3
  have c6 : Steps p.tables e below (s₁.setTop (entryFrame m #[.ref a, .ref b, .int (Int32.ofNat o), .int (Int32.ofNat len), .null] 6)) (T5.setTop (mkF m 30 #[.val (.ref a), .val (.ref b), .val (.int (Int32.ofNat o)), .val (.int (Int32.ofNat len)), .val .null, .unset] [.int z])) := c4.trans (st5 _ (Steps.refl _))
  have c7 : Steps p.tables e below (s₁.setTop (entryFrame m #[.ref a, .ref b, .int (Int32.ofNat o), .int (Int32.ofNat len), .null] 6)) (T5.setTop (mkF m 36 #[.val (.ref a), .val (.ref b), .val (.int (Int32.ofNat o)), .val (.int (Int32.ofNat len)), .val .null, .unset] [.int (Int32.ofNat len), .int (Int32.ofNat o), .ref b])) := c6.trans (by
    refine XS.ifNo X5.here hexec rfl (hb hbytes d30) rfl (i0_eq_f hz) ?_
    refine XS.aloadN X5.here hexec rfl (hb hbytes d33) rfl rfl ?_
    refine XS.iloadN X5.here hexec rfl (hb hbytes d34) rfl ?_
    refine XS.iloadN X5.here hexec rfl (hb hbytes d35) rfl ?_
    exact Steps.refl _)
  obtain ⟨v8, T8, X8, E8, g8⟩ := X5.callS hexec (Cmp3.law l b A o len) hown (wks W (staticW "java/lang/String" 177 Cmp3.yN)) (wk W Cmp3.tab) (W := 0) (Nat.le_of_ble_eq_true rfl) (Nat.le_of_ble_eq_true rfl) (Nat.le_refl _) (by show 0 + len ≤ len; omega) (g := (mkF m 36 #[.val (.ref a), .val (.ref b), .val (.int (Int32.ofNat o)), .val (.int (Int32.ofNat len)), .val .null, .unset] [.int (Int32.ofNat len), .int (Int32.ofNat o), .ref b])) rfl (by rw [hml]; rfl) c7 (argsL := [.ref b, .int (Int32.ofNat o), .int (Int32.ofNat len)]) (rest := []) rfl rfl (by show 2 * 0 + 0 ≤ _; decide) (hb hbytes d36) (⟨rfl, hA.mv X5.warmed.alike hh5, l1, l2, hp⟩)
  obtain ⟨e8, z8⟩ := E8
  obtain ⟨rfl, N, n1, n2, n3, n4, n5, n6⟩ := NewArr.mv _ T5 s _ _ hh5.symm (Vm.Alike.refl _) rfl e8
  rw [hh5] at z8
  have hB1 := hB.keep X8.warmed.alike (n6 _ _ hB.1)
  have hne : s.heap.size ≠ a := (Nat.ne_of_lt (Array.getElem?_eq_some_iff.mp hB.1).1).symm
  have c9 : Steps p.tables e below (s₁.setTop (entryFrame m #[.ref a, .ref b, .int (Int32.ofNat o), .int (Int32.ofNat len), .null] 6)) (T8.setTop (mkF m 39 #[.val (.ref a), .val (.ref b), .val (.int (Int32.ofNat o)), .val (.int (Int32.ofNat len)), .val .null, .unset] [.ref s.heap.size])) := g8
  have c10 : Steps p.tables e below (s₁.setTop (entryFrame m #[.ref a, .ref b, .int (Int32.ofNat o), .int (Int32.ofNat len), .null] 6)) (T8.setTop (mkF m 45 #[.val (.ref a), .val (.ref b), .val (.int (Int32.ofNat o)), .val (.int (Int32.ofNat len)), .val .null, .val (.ref s.heap.size)] [.int (Int32.ofNat N.slots.size), .ref s.heap.size, .ref a])) := by
    have hc : Steps p.tables e below (s₁.setTop (entryFrame m #[.ref a, .ref b, .int (Int32.ofNat o), .int (Int32.ofNat len), .null] 6)) (T8.setTop (mkF m 45 #[.val (.ref a), .val (.ref b), .val (.int (Int32.ofNat o)), .val (.int (Int32.ofNat len)), .val .null, .val (.ref s.heap.size)] [.int (Int32.ofNat len), .ref s.heap.size, .ref a])) := c9.trans (by
      refine XS.astore X8.here hexec rfl (hb hbytes d39) rfl rfl rfl ?_
      refine XS.aloadN X8.here hexec rfl (hb hbytes d41) rfl rfl ?_
      refine XS.aload X8.here hexec rfl (hb hbytes d42) rfl rfl ?_
      refine XS.iloadN X8.here hexec rfl (hb hbytes d44) rfl ?_
      exact Steps.refl _)
    rw [n4]; exact hc
  obtain ⟨v11, T11, X11, E11, g11⟩ := X8.callS hexec (CodL.law l s.heap.size N) hown (wks W (staticW "java/lang/String" 47 CodL.yN)) (wk W CodL.tab) (W := 1) (Nat.le_of_ble_eq_true rfl) (Nat.le_of_ble_eq_true rfl) (Nat.le_refl _) (by show 0 + len + 0 ≤ len; omega) (g := (mkF m 45 #[.val (.ref a), .val (.ref b), .val (.int (Int32.ofNat o)), .val (.int (Int32.ofNat len)), .val .null, .val (.ref s.heap.size)] [.int (Int32.ofNat N.slots.size), .ref s.heap.size, .ref a])) rfl (by rw [hml]; rfl) c10 (argsL := [.ref s.heap.size, .int (Int32.ofNat N.slots.size)]) (rest := [.ref a]) rfl rfl (by show 2 * 0 + (1 + 0) ≤ _; decide) (hb hbytes d45) (⟨rfl, n1⟩)
  obtain ⟨rfl, q11⟩ := E11
  have hB11 := hB1.mv (X8.warmed.alike.symm.trans X11.warmed.alike) q11
  have c12 : Steps p.tables e below (s₁.setTop (entryFrame m #[.ref a, .ref b, .int (Int32.ofNat o), .int (Int32.ofNat len), .null] 6)) (T11.setTop (mkF m 48 #[.val (.ref a), .val (.ref b), .val (.int (Int32.ofNat o)), .val (.int (Int32.ofNat len)), .val .null, .val (.ref s.heap.size)] [.int 0, .ref a])) := g11
  obtain ⟨T13, X13, p13, bl13, sl13, st13⟩ := X11.finit hexec hown (wk W (.fieldLink "java/lang/String" 15 "java/lang/String" "coder" "B")) (Or.inr ⟨_, (wk W (.laysFinal "java/lang/String" "java/lang/String" "coder" "B"))⟩) (Or.inl ⟨rfl, hnm⟩) f2 (Or.inl rfl) hB11 (t := .byte) (by decide +kernel) rfl (g := (mkF m 48 #[.val (.ref a), .val (.ref b), .val (.int (Int32.ofNat o)), .val (.int (Int32.ofNat len)), .val .null, .val (.ref s.heap.size)] [.int 0, .ref a])) rfl (rest := []) rfl (hb hbytes d48)
  have c14 : Steps p.tables e below (s₁.setTop (entryFrame m #[.ref a, .ref b, .int (Int32.ofNat o), .int (Int32.ofNat len), .null] 6)) (T13.setTop (mkF m 54 #[.val (.ref a), .val (.ref b), .val (.int (Int32.ofNat o)), .val (.int (Int32.ofNat len)), .val .null, .val (.ref s.heap.size)] [.ref s.heap.size, .ref a])) := (c12.trans (st13 _ (Steps.refl _))).trans (by
    refine XS.aloadN X13.here hexec rfl (hb hbytes d51) rfl rfl ?_
    refine XS.aload X13.here hexec rfl (hb hbytes d52) rfl rfl ?_
    exact Steps.refl _)
  obtain ⟨T15, X15, p15, bl15, sl15, st15⟩ := X13.finit hexec hown (wk W (.fieldLink "java/lang/String" 9 "java/lang/String" "value" "[B")) (Or.inr ⟨_, (wk W (.laysFinal "java/lang/String" "java/lang/String" "value" "[B"))⟩) (Or.inl ⟨rfl, hnm⟩) f1 (Or.inl rfl) bl13 (t := (.array .byte)) (by decide +kernel) rfl (g := (mkF m 54 #[.val (.ref a), .val (.ref b), .val (.int (Int32.ofNat o)), .val (.int (Int32.ofNat len)), .val .null, .val (.ref s.heap.size)] [.ref s.heap.size, .ref a])) rfl (rest := []) rfl (hb hbytes d54)
  have c16 : Steps p.tables e below (s₁.setTop (entryFrame m #[.ref a, .ref b, .int (Int32.ofNat o), .int (Int32.ofNat len), .null] 6)) (T15.setTop (mkF m 57 #[.val (.ref a), .val (.ref b), .val (.int (Int32.ofNat o)), .val (.int (Int32.ofNat len)), .val .null, .val (.ref s.heap.size)] [])) := c14.trans (st15 _ (Steps.refl _))
  have ap := apart (Or.inr ⟨_, (wk W (.laysFinal "java/lang/String" "java/lang/String" "value" "[B"))⟩) (Or.inr ⟨_, (wk W (.laysFinal "java/lang/String" "java/lang/String" "coder" "B"))⟩) f1 f2 (t₁ := .array .byte) (t₂ := .byte) (by decide +kernel) (by decide +kernel) (by decide)
  have al := X8.warmed.alike.symm.trans X15.warmed.alike
  have n7 : T11.heap[s.heap.size]? = some N := by rw [q11]; exact n1.1
  exact ⟨T15, none, _, _, _, X15, by simp, rfl, by omega, (fun _ => rfl), ⟨rfl, _, N, bl15, ((Same.refl D _).set _ (by simp)).set _ (by simp), sl15, (Cell.slots_setSlot_ne _ ap).trans sl13, n1.keep al (p15.other hne (p13.other hne n7)), n2, by rw [al.findClass]; exact n3, n4, n5, fun y c h1 h2 => p15.other h1 (p13.other h1 (by rw [q11]; exact n6 y c h2)), by rw [p15.2.2, p13.2.2, q11]; exact z8⟩, fun fs hl => c16.trans (X15.returnOut hexec hret (hb hbytes d57) hl)⟩
end New4
namespace New1
def yN : MethodName := ⟨"java/lang/String", "<init>", "([C)V"⟩
abbrev yB : ByteArray := jdk_42_method_3_code
theorem d0 : decode yB 0 = .ok (.aload_n 0, 1) := by decide +kernel
theorem d1 : decode yB 1 = .ok (.aload_n 1, 1) := by decide +kernel
theorem d2 : decode yB 2 = .ok (.iconst 0, 1) := by decide +kernel
theorem d3 : decode yB 3 = .ok (.aload_n 1, 1) := by decide +kernel
theorem d4 : decode yB 4 = .ok (.arraylength, 1) := by decide +kernel
theorem d5 : decode yB 5 = .ok (.aconst_null, 1) := by decide +kernel
theorem d6 : decode yB 6 = .ok (.invokespecial 27, 3) := by decide +kernel
theorem d9 : decode yB 9 = .ok (.return_, 1) := by decide +kernel
def site : List Cond := [New4.tab] ++ initW "java/lang/String" 27 New4.yN
def tab : Cond := tabOf yN yB 2 none site
def P (a : Addr) (D : Cell) (fV fC : Field) (b : Addr) (A : Cell) (z : Int32) (args : Array Value) (s : State) : Prop := args = #[.ref a, .ref b] ∧ Blank "java/lang/String" a D s ∧ Found "java/lang/String" "value" "[B" fV s ∧ Found "java/lang/String" "coder" "B" fC s ∧ Ch b A s ∧ StaticIs s "java/lang/String" "COMPACT_STRINGS" "Z" (.int z) ∧ ¬ z = 0 ∧ 0 < A.slots.size ∧ A.slots.size ≤ 536870912 ∧ ∀ i, i < A.slots.size → ¬ 255 < cv A i
def E (a : Addr) (D : Cell) (fV fC : Field) (A : Cell) (r : Option Value) (s u : State) : Prop := Got a D fV fC A 0 A.slots.size r s u
/-- new String(chars), not empty, no char above 255: a Latin-1 String of their low bytes -/
theorem law (l : Launch) (a : Addr) (D : Cell) (fV fC : Field) (b : Addr) (A : Cell) (z : Int32) : Law l yN 2 1 3 52 yB 2 none site (P a D fV fC b A z) (E a D fV fC A) [⟨a, fC.slot⟩, ⟨a, fV.slot⟩] 1 A.slots.size := by
  refine Law.of_walk (plainFor_of_name (by decide +kernel)) (by decide +kernel) (by decide +kernel) (by decide) (fun _ _ h => by rw [h.1]; rfl) (fun _ U U' hal hh h => ⟨h.1, h.2.1.mv hal hh, h.2.2.1.al hal, h.2.2.2.1.al hal, h.2.2.2.2.1.mv hal hh, h.2.2.2.2.2.1.there hal hh, h.2.2.2.2.2.2⟩) (fun r U U' V V' h1 hal h2 h => Got.mv r U U' V V' h1 hal h2 h) ?_
  intro p e s m args below meth c s₁ X0 hexec hbytes hml hret hlk hnm hown hh0 W hP
  obtain ⟨rfl, hB, f1, f2, hA, s1, hz, l0, l2, hp⟩ := hP
  have c1 : Steps p.tables e below (s₁.setTop (entryFrame m #[.ref a, .ref b] 2)) (s₁.setTop (mkF m 0 #[.val (.ref a), .val (.ref b)] [])) := entry rfl
  have c2 : Steps p.tables e below (s₁.setTop (entryFrame m #[.ref a, .ref b] 2)) (s₁.setTop (mkF m 6 #[.val (.ref a), .val (.ref b)] [.null, .int (Int32.ofNat A.slots.size), .int 0, .ref b, .ref a])) := c1.trans (by
    refine XS.aloadN X0.here hexec rfl (hb hbytes d0) rfl rfl ?_
    refine XS.aloadN X0.here hexec rfl (hb hbytes d1) rfl rfl ?_
    refine iconstV X0.here hexec rfl 0 (hb hbytes d2) (by decide) ?_
    refine XS.aloadN X0.here hexec rfl (hb hbytes d3) rfl rfl ?_
    refine X0.alen hexec (hA.1.mv X0.warmed.alike hh0) rfl rfl (hb hbytes d4) ?_
    refine XS.aconstNull X0.here hexec rfl (hb hbytes d5) ?_
    exact Steps.refl _)
  obtain ⟨v3, T3, X3, E3, g3⟩ := X0.callN hexec (New4.law l a D fV fC b A z 0 A.slots.size) rfl hown (wks W (initW "java/lang/String" 27 New4.yN)) (W New4.tab (by simp only [site, List.mem_cons, List.mem_append, true_or, or_true])) (W := 0) (Nat.le_of_ble_eq_true rfl) (Nat.le_of_ble_eq_true rfl) (Nat.le_refl _) (by show 0 + A.slots.size ≤ A.slots.size; omega) (g := (mkF m 6 #[.val (.ref a), .val (.ref b)] [.null, .int (Int32.ofNat A.slots.size), .int (Int32.ofNat 0), .ref b, .ref a])) rfl (by rw [hml]; rfl) c2 (argsL := [.ref b, .int (Int32.ofNat 0), .int (Int32.ofNat A.slots.size), .null]) (rest := []) rfl rfl (by show 2 * 0 + 0 ≤ _; decide) (hb hbytes d6) (⟨rfl, hB.mv X0.warmed.alike hh0, f1.al X0.warmed.alike, f2.al X0.warmed.alike, hA.mv X0.warmed.alike hh0, s1.there X0.warmed.alike hh0, hz, l0, by omega, l2, fun i hi => by rw [Nat.zero_add]; exact hp i hi⟩)
  have e0 := Got.mv _ s₁ s _ _ hh0.symm (Vm.Alike.refl _) rfl E3
  obtain rfl := e0.1
  have c4 : Steps p.tables e below (s₁.setTop (entryFrame m #[.ref a, .ref b] 2)) (T3.setTop (mkF m 9 #[.val (.ref a), .val (.ref b)] [])) := g3
  exact ⟨T3, none, _, _, _, X3, by simp, rfl, by omega, (fun _ => rfl), e0, fun fs hl => c4.trans (X3.returnOut hexec hret (hb hbytes d9) hl)⟩
theorem pays {l : Launch} {R : Room} {p : Program} {e : Env} {below : List Frame} {s : State} {sargs : Array Value} {len W : Nat} (a : Addr) (D : Cell) (fV fC : Field) (b : Addr) (A : Cell) (z : Int32) (htab : tab.before sargs s = true) (hfr : 4 ≤ R.frames) (hlo : W + 65 ≤ R.locals) :
    Back l R p e below s sargs yN len W (fun A₁ a₁ => A₁.cells + 1 ≤ R.cells ∧ A₁.slots + A.slots.size ≤ R.slots ∧ P a D fV fC b A z a₁ A₁.U) (fun A₁ _ v₁ B₁ => E a D fV fC A v₁ A₁.U B₁.U ∧ B₁.locs = A₁.locs ++ [⟨a, fC.slot⟩, ⟨a, fV.slot⟩] ∧ B₁.cells = A₁.cells + 1 ∧ B₁.slots = A₁.slots + A.slots.size) :=
  (law l a D fV fC b A z).pays htab hfr (by omega)
end New1
end StrChars
namespace StrChars.Road
open Jvm Sem ClassFile Op Lib Jvm.Stand Jvm.Free Jvm.Free.XT
open Jvm.Lib.Cold (StaticIs)
abbrev ST : String := "java/lang/String"
/-- every table word that New1's law asks, flat -/
abbrev words : List Jvm.Cond := [.code New1.yN New1.yB 2 none, .initialized ST, .methodLink ST 27 New4.yN, .instanceMethod New4.yN,
  .code New4.yN New4.yB 6 none, .fieldLink ST 38 ST "COMPACT_STRINGS" "Z", .laysFinal ST ST "value" "[B", .fieldLink ST 9 ST "value" "[B", .laysFinal ST ST "coder" "B", .fieldLink ST 15 ST "coder" "B",
  .methodLink ST 1 Lib.objectInit, .instanceMethod Lib.objectInit, .code Lib.objectInit ⟨#[0xb1]⟩ 1 none, .methodLink ST 177 Cmp3.yN, .static Cmp3.yN, .methodLink ST 47 CodL.yN, .static CodL.yN,
  .code Cmp3.yN Cmp3.yB 6 (some (.array .byte)), .initialized U16, .arrayClass .byte, .methodLink U16 115 Cmp5.yN, .static Cmp5.yN, .code Cmp5.yN Cmp5.yB 7 (some .int), .code CodL.yN CodL.yB 2 (some .byte)]
theorem tab_of {a : Array Value} {s : State} (h : ∀ w ∈ words, w.before a s = true) : New1.tab.before a s = true := by
  have h5 : Cmp5.tab.before a s = true := unparts (wk h (.code Cmp5.yN Cmp5.yB 7 (some .int))) (wks h (.initialized Cmp5.yN.cls :: Cmp5.site))
  have hc : CodL.tab.before a s = true := unparts (wk h (.code CodL.yN CodL.yB 2 (some .byte))) (wks h (.initialized CodL.yN.cls :: CodL.site))
  have q5 : ∀ w ∈ Cmp5.tab :: words, w.before a s = true := fun w hw => (List.mem_cons.mp hw).elim (fun e => e ▸ h5) (h w)
  have h3 : Cmp3.tab.before a s = true := unparts (wk q5 (.code Cmp3.yN Cmp3.yB 6 (some (.array .byte)))) (wks q5 (.initialized Cmp3.yN.cls :: Cmp3.site))
  have q3 : ∀ w ∈ Cmp3.tab :: CodL.tab :: words, w.before a s = true := fun w hw => (List.mem_cons.mp hw).elim (fun e => e ▸ h3) fun hw => (List.mem_cons.mp hw).elim (fun e => e ▸ hc) (h w)
  have h4 : New4.tab.before a s = true := unparts (wk q3 (.code New4.yN New4.yB 6 none)) (wks q3 (.initialized New4.yN.cls :: New4.site))
  have q4 : ∀ w ∈ New4.tab :: words, w.before a s = true := fun w hw => (List.mem_cons.mp hw).elim (fun e => e ▸ h4) (h w)
  exact unparts (wk q4 (.code New1.yN New1.yB 2 none)) (wks q4 (.initialized New1.yN.cls :: New1.site))
/-- the words ride from the start Z to the walk's own state -/
theorem moved {Z s : State} {a0 args : Array Value} (hZ : Z.Warmed39 s.vm) (hw : ∀ d ∈ words, d.before a0 Z = true) : ∀ d ∈ words, d.before args s = true := fun d hd => by
  have q := hw d hd
  have t : ∀ d ∈ words, d = .arrayClass .byte ∨ (d.onTables && d.keepsFace) = true := by decide +kernel
  rcases t d hd with rfl | t
  · exact RoadKit.mvA hZ q
  · exact RoadKit.mv hZ q t
/-- WHAT COMES BACK, over the tables of the start Z: h the heap at the call, h' behind it -/
def Q (Z : State) (x : Addr) (A : Cell) (h : Heap) (v : Option Value) (h' : Heap) (L : List Loc) : Prop := v = none ∧ (∀ y ∈ L, y.base = x) ∧ RoadKit.Keep h h' [x] ∧ h'.size = h.size + 1 ∧ RoadKit.Exa Z h' x ST ∧ RoadKit.Fld Z h' x ST "value" "[B" (.ref h.size) ∧ RoadKit.Fld Z h' x ST "coder" "B" (.int 0) ∧
  (∃ V : Cell, RoadKit.Arr Z h' h.size V .byte ∧ V.vm = .none ∧ Z.vm.findClass "[B" = some V.cls ∧ V.slots.size = A.slots.size ∧ ∀ j, j < A.slots.size → V.slots[j]? = some (.int (lo8 (cv A j)))) ∧
  ∀ (O n d : String) (w : Value), RoadKit.Fld Z h x O n d w → RoadKit.slotOf Z O n d ≠ RoadKit.slotOf Z ST "value" "[B" → RoadKit.slotOf Z O n d ≠ RoadKit.slotOf Z ST "coder" "B" → RoadKit.Fld Z h' x O n d w
/-- **new String(chars) AT A CALL, IN THE ROAD'S FORM**: for specialBack behind newO: x the fresh String, b the char[] with the cell A -/
theorem back {p : Program} {l : Launch} {e : Env} {R : Room} {s : State} {args : Array Value} {below : List Frame} {len W : Nat} {Z : State} {a0 : Array Value} {h : Heap} (hZ : Z.Warmed39 s.vm) (hw : ∀ d ∈ words, d.before a0 Z = true) {kI : Nat} (wi : (Jvm.Cond.instantiable ST kI).before a0 Z = true)
    {x b : Addr} {A : Cell} {z : Int32} {v0 c0 : Value} (E : RoadKit.Exa Z h x ST) (V : RoadKit.Fld Z h x ST "value" "[B" v0) (C : RoadKit.Fld Z h x ST "coder" "B" c0) (K : RoadKit.Arr Z h b A .char) (hty : Typed .char A) (S : RoadKit.Sta Z h ST "COMPACT_STRINGS" "Z" (.int z)) (hz : ¬ z = 0)
    (l0 : 0 < A.slots.size) (l2 : A.slots.size ≤ 536870912) (hp : ∀ i, i < A.slots.size → ¬ 255 < cv A i) (hfr : 4 ≤ R.frames) (hlo : W + 65 ≤ R.locals) :
    Back l R p e below s args New1.yN len W (fun P a => a = #[.ref x, .ref b] ∧ P.U.heap = h ∧ P.cells + 1 ≤ R.cells ∧ P.slots + A.slots.size ≤ R.slots)
      (fun P _ v B => ∃ L, Q Z x A h v B.U.heap L ∧ B.locs = P.locs ++ L ∧ B.cells = P.cells + 1 ∧ B.slots = P.slots + A.slots.size) := by
  intro m meth c P g ig mk a X hg hsize hdg hW hn hp'
  obtain ⟨rfl, rfl, r1, r2⟩ := hp'
  have al : Z.vm.Alike P.U.vm := hZ.alike.trans X.warmed.alike
  obtain ⟨D, cfV, kV, iV, fV, hD, gV, stV, knV, obV, asV, slV⟩ := id V
  obtain ⟨D', cfC, kC, iC, fC, hD', gC, stC, -, -, asC, slC⟩ := id C
  cases hD.symm.trans hD'
  obtain ⟨D2, kD, e1, e2, e3, e4, e5⟩ := id E
  cases hD.symm.trans e1
  obtain ⟨c2, k2, i1, i2, i3, -⟩ := Cond.instantiable_spec wi
  cases e2.symm.trans i1
  cases e3.symm.trans i2
  obtain ⟨kU, u1, u2⟩ := al.2.2 _ _ e3
  have hB : Blank ST x D P.U := ⟨hD, ⟨knV, fun q hq => by rw [hq] at obV; cases obV⟩, by rw [al.findClass]; exact e2, kU, u1, by rw [u2]; exact i3, by rw [u2]; exact e5 i3⟩
  have F1 : Found ST "value" "[B" fV P.U := ⟨SBG.found_only al ⟨cfV, kV, iV, gV⟩, stV⟩
  have F2 : Found ST "coder" "B" fC P.U := ⟨SBG.found_only al ⟨cfC, kC, iC, gC⟩, stC⟩
  have hA : Ch b A P.U := ⟨⟨K.1, State.isArrayOf_alike al K.2.1, K.2.2, by omega⟩, hty⟩
  have hS : StaticIs P.U ST "COMPACT_STRINGS" "Z" (.int z) := by
    obtain ⟨cfS, iS, kS, fS, st, cS, t1, t2, t3, t4, t5, t6, t7⟩ := S
    exact StaticIs.there (s := { Z with heap := P.U.heap }) ⟨cfS, iS, kS, fS, st, cS, t1, t2, t3, t4, t5, (fun q => by rw [q] at t6; cases t6), t7⟩ al rfl
  obtain ⟨v, B, X', ⟨⟨hv, E', V', q1, q2, q3, q4, q5, q6, q7, q8, q9, q10, q11⟩, hl, hc, hs⟩, st⟩ := New1.pays x D fV fC b A z (tab_of (moved hZ hw)) hfr hlo m meth c P g ig mk _ X hg hsize hdg hW hn ⟨r1, r2, rfl, hB, F1, F2, hA, hS, hz, l0, l2, hp⟩
  have al' : Z.vm.Alike B.U.vm := hZ.alike.trans X'.warmed.alike
  have hsz : E'.slots.size = D.slots.size := by
    obtain ⟨-, -, -, kB, w1, w2, w3⟩ := q1
    obtain ⟨kB', y1, y2⟩ := al'.2.2 _ _ e3
    rw [q2.2.1] at w1
    cases w1.symm.trans y1
    rw [w3, e5 i3, y2]
  refine ⟨v, B, X', ⟨_, ⟨hv, ?_, ⟨by omega, fun y cy hy hn' => q10 y cy (by simpa using hn') hy, fun y cy hy => ?_⟩, q11, ⟨E', _, q1.1, by rw [q2.2.1]; exact e2, by rw [q2.2.1]; exact e3, by rw [q2.1]; exact obV, fun _ => by rw [hsz]; exact e5 i3⟩,
    ⟨E', cfV, kV, iV, fV, q1.1, gV, stV, by rw [q2.1]; exact knV, by rw [q2.1]; exact obV, by rw [q2.2.1]; exact asV, q3⟩, ⟨E', cfC, kC, iC, fC, q1.1, gC, stC, by rw [q2.1]; exact knV, by rw [q2.1]; exact obV, by rw [q2.2.1]; exact asC, q4⟩,
    ⟨V', ⟨q5.1, State.isArrayOf_alike al'.symm q5.2.1, q5.2.2.1⟩, q6, by rw [← al'.findClass]; exact q7, q8, fun j hj => by have := q9 j hj; rwa [Nat.zero_add] at this⟩, fun O n d w F n1 n2 => ?_⟩, hl, hc, hs⟩, st⟩
  · intro y hy
    simp only [List.mem_cons, List.not_mem_nil, or_false] at hy
    rcases hy with rfl | rfl <;> rfl
  · by_cases q : y = x
    · subst q
      cases hD.symm.trans hy
      exact ⟨E', q1.1, q2.2.1, q2.1, hsz⟩
    · exact ⟨cy, q10 y cy q hy, rfl, rfl, rfl⟩
  · obtain ⟨D3, cf, k, i, f, g1, g2, g3, g4, g5, g6, g7⟩ := F
    cases hD.symm.trans g1
    simp only [RoadKit.slotOf, g2, gV, gC, Option.map_some, Option.getD_some] at n1 n2
    exact ⟨E', cf, k, i, f, q1.1, g2, g3, by rw [q2.1]; exact g4, by rw [q2.1]; exact g5, by rw [q2.2.1]; exact g6, by rw [q2.2.2 f.slot (by simp [n1, n2])]; exact g7⟩
end StrChars.Road
namespace StrChars.Road
open Jvm Sem ClassFile Op Lib Jvm.Stand Jvm.Free Jvm.Free.XT
/-- WHAT COMES BACK, the byte[] as a list of values -/
def QA (Z : State) (x : Addr) (zn : Int32) (cs : List Int32) (h : Heap) (v : Option Value) (h' : Heap) (L : List Loc) : Prop := v = none ∧ (∀ y ∈ L, y.base = x) ∧ RoadKit.Keep h h' [x] ∧ h'.size = h.size + 1 ∧ RoadKit.Exa Z h' x ST ∧ RoadKit.Fld Z h' x ST "value" "[B" (.ref h.size) ∧ RoadKit.Fld Z h' x ST "coder" "B" (.int 0) ∧
  (∃ kb, Z.vm.findClass "[B" = some kb ∧ RoadKit.Arv Z h' h.size kb .byte zn (cs.map fun c => .int (lo8 c)) (.int 0)) ∧
  ∀ (O n d : String) (w : Value), RoadKit.Fld Z h x O n d w → RoadKit.slotOf Z O n d ≠ RoadKit.slotOf Z ST "value" "[B" → RoadKit.slotOf Z O n d ≠ RoadKit.slotOf Z ST "coder" "B" → RoadKit.Fld Z h' x O n d w
/-- **new String(chars) AT A CALL, THE ARRAYS AS LISTS**: the char[] at b holds cs, not empty, no char above 255 -/
theorem backArv {p : Program} {l : Launch} {e : Env} {R : Room} {s : State} {args : Array Value} {below : List Frame} {len W : Nat} {Z : State} {a0 : Array Value} {h : Heap} (hZ : Z.Warmed39 s.vm) (hw : ∀ d ∈ words, d.before a0 Z = true) {kI : Nat} (wi : (Jvm.Cond.instantiable ST kI).before a0 Z = true)
    {x b : Addr} {k : ClassId} {zn z : Int32} {cs : List Int32} {dv v0 c0 : Value} (E : RoadKit.Exa Z h x ST) (V : RoadKit.Fld Z h x ST "value" "[B" v0) (C : RoadKit.Fld Z h x ST "coder" "B" c0) (K : RoadKit.Arv Z h b k .char zn (cs.map Value.int) dv) (S : RoadKit.Sta Z h ST "COMPACT_STRINGS" "Z" (.int z)) (hz : ¬ z = 0)
    (hlen : zn.toNatClampNeg = cs.length) (h0 : 0 < cs.length) (hbig : cs.length ≤ 536870912) (hall : ∀ c ∈ cs, ¬ 255 < c) (hfr : 4 ≤ R.frames) (hlo : W + 65 ≤ R.locals) :
    Back l R p e below s args New1.yN len W (fun P a => a = #[.ref x, .ref b] ∧ P.U.heap = h ∧ P.cells + 1 ≤ R.cells ∧ P.slots + cs.length ≤ R.slots)
      (fun P _ v B => ∃ L, QA Z x zn cs h v B.U.heap L ∧ B.locs = P.locs ++ L ∧ B.cells = P.cells + 1 ∧ B.slots = P.slots + cs.length) := by
  obtain ⟨A, K1, K2, K3, K4, K5, K6⟩ := K
  have e : A.slots.size = cs.length := K3.trans hlen
  have hat : ∀ (i : Nat) (hi : i < cs.length), A.slots[i]? = some (.int cs[i]) := fun i hi => by rw [K5 i (by omega)]; simp [List.getD_eq_getElem?_getD, hi]
  have hcv : ∀ (i : Nat) (hi : i < cs.length), cv A i = cs[i] := fun i hi => by unfold cv; rw [hat i hi]
  have hty : Typed .char A := fun i v hv => by
    have hi : i < A.slots.size := (Array.getElem?_eq_some_iff.mp hv).1
    have q := K5 i hi
    rw [hv] at q
    rw [Option.some.inj q]
    exact K6 i hi
  refine Back.mono (back hZ hw wi E V C K1 hty S hz (by omega) (by omega) (fun i hi => by rw [hcv i (by omega)]; exact hall _ (List.getElem_mem _)) hfr hlo) (fun P a hp => ⟨hp.1, hp.2.1, hp.2.2.1, by rw [e]; exact hp.2.2.2⟩) (fun P a v B hp hq => ?_)
  obtain ⟨L, ⟨q1, q2, q3, q4, q5, q6, q7, ⟨V', v1, v2, v3, v4, v5⟩, q9⟩, hl, hc, hs⟩ := hq
  refine ⟨L, ⟨q1, q2, q3, q4, q5, q6, q7, ⟨V'.cls, v3, V', v1, rfl, by rw [v4, e, hlen], K4, fun i hi => ?_, fun i hi => ?_⟩, q9⟩, hl, hc, by rw [hs, e]⟩
  · have hi' : i < cs.length := by omega
    rw [v5 i (by omega), hcv i hi']; simp [List.getD_eq_getElem?_getD, hi']
  · have hi' : i < cs.length := by omega
    simp only [List.getD_eq_getElem?_getD, List.getElem?_map, List.getElem?_eq_getElem hi', Option.map_some, Option.getD_some]
    exact fits_lo8 _
end StrChars.Road
namespace StrChars.Road
open Jvm Sem ClassFile Op Lib Jvm.Stand Jvm.Free Jvm.Free.XT
/-- WHAT COMES BACK, in the writer's own shape -/
def QV (Z : State) (x : Addr) (N : Int32) (bs : List Int32) (h : Heap) (n0 : Nat) (v : Option Value) (h' : Heap) (L : List Loc) : Prop := v = none ∧ RoadKit.Fr n0 L ∧ RoadKit.Keep h h' [x] ∧ RoadKit.Exa Z h' x ST ∧ RoadKit.Fld Z h' x ST "coder" "B" (.int 0) ∧
  ∃ (t : Addr) (kb : ClassId), n0 ≤ t ∧ h.size ≤ t ∧ ¬ t = x ∧ RoadKit.Fld Z h' x ST "value" "[B" (.ref t) ∧ RoadKit.Arv Z h' t kb .byte N (bs.map Value.int) (.int 0)
/-- **new String(chars) AT A CALL, FOR THE WRITER**: a char[] of n known ints, each 0 to 255 -/
theorem backV {p : Program} {l : Launch} {e : Env} {R : Room} {s : State} {args : Array Value} {below : List Frame} {len W : Nat} {Z : State} {a0 : Array Value} {h : Heap} (hZ : Z.Warmed39 s.vm) (hw : ∀ d ∈ words, d.before a0 Z = true) {kI : Nat} (wi : (Jvm.Cond.instantiable ST kI).before a0 Z = true)
    {x b : Addr} {kC : ClassId} {cs bs : List Int32} {d v0 c0 : Value} {z N : Int32} {n n0 : Nat} (hx0 : n0 ≤ x) (hh0 : n0 ≤ h.size) (E : RoadKit.Exa Z h x ST) (V : RoadKit.Fld Z h x ST "value" "[B" v0) (C : RoadKit.Fld Z h x ST "coder" "B" c0) (K : RoadKit.Arv Z h b kC .char N (cs.map Value.int) d) (S : RoadKit.Sta Z h ST "COMPACT_STRINGS" "Z" (.int z)) (hz : ¬ z = 0)
    (hn : cs.length = n) (hN : N = Int32.ofNat n) (l0 : 0 < n) (l2 : n ≤ 4000) (hp : ∀ c ∈ cs, ¬ c < 0 ∧ ¬ (255 : Int32) < c) (hb : bs = cs.map (fun c => c.toInt8.toInt32)) (hfr : 4 ≤ R.frames) (hlo : W + 65 ≤ R.locals) :
    Back l R p e below s args (⟨"java/lang/String", "<init>", "([C)V"⟩ : MethodName) len W (fun P a => a = #[.ref x, .ref b] ∧ P.U.heap = h ∧ P.cells + 1 ≤ R.cells ∧ P.slots + n ≤ R.slots)
      (fun P _ v B => ∃ L, QV Z x N bs h n0 v B.U.heap L ∧ B.locs = P.locs ++ L ∧ B.cells = P.cells + 1 ∧ B.slots = P.slots + n) := by
  subst hn hN hb
  refine Back.mono (backArv hZ hw wi E V C K S hz (n32 (by omega)) l0 (by omega) (fun c hc => (hp c hc).2) hfr hlo) (fun P a hp => hp) (fun P a v B hp hq => ?_)
  obtain ⟨L, ⟨q1, q2, q3, q4, q5, q6, q7, ⟨kb, v1, v2⟩, q9⟩, hl, hc, hs⟩ := hq
  exact ⟨L, ⟨q1, fun y hy => by rw [q2 y hy]; exact hx0, q3, q5, q7, h.size, kb, hh0, Nat.le_refl _, Nat.ne_of_gt E.lt, q6, by rw [List.map_map]; exact v2⟩, hl, hc, hs⟩
end StrChars.Road
end Jvm.Pilot.@@N@@
namespace Jvm.RoadKit
open Sem ClassFile Op Lib Jvm.Stand Jvm.Free Jvm.LawKit
section New
variable {p : Program} {l : Launch} {e : Env} {R : Room} {s : State} {m : MethodId} {args : Array Value} {below : List Frame} {meth : Method} {c : Code} {T : State} {locs : List Loc} {cells slots : Nat}
theorem retI (X : Stand p l e R s m args below meth c T locs cells slots) (hx : p.tables.exec = Jvm.exec) {pc : Nat} {Ls : Array Slot} {z : Int32} {rest : List Value} (hret : meth.sig.returnType = some .int) (hd : decode c.code pc = .ok (.ireturn, 1)) {fs : List Frame}
    (hl : ∀ (f : JFrame) (acts : List Action), f.method = m → f.locked = none → f.entered = [] → (doReturn e (T.setTop f) acts (some (.int z))).1 = T.setFrames fs) : Steps p.tables e below (T.setTop (mkF m pc Ls (.int z :: rest))) (T.setFrames fs) := by
  have hm' : T.vm.method? m = some meth := X.method'
  have hn : narrow .int (.int z) = .int z := rfl
  show Steps p.tables e below (T.setTop { method := m, pc := pc, locals := Ls, stack := _ :: rest, locked := none }) _
  jvm_step X.here [X.here.top, hx, hd, hm', hret, hn]
  first | (intro acts; rw [hl _ acts rfl rfl rfl]) | rw [hl _ _ rfl rfl rfl]
  exact Steps.refl _
end New
end Jvm.RoadKit
namespace Jvm.Pilot.@@N@@
open Jvm Jvm.ClassFile Sem Op Lib Jvm.Free Jvm.Stand Jvm.LawKit Jvm.RoadKit Bundle Jvm.Pilot.@@N@@.Jvm.D
abbrev cFV : String := "com/example/adjoinery/adjoinery/FeatureValue"
abbrev cFL : String := "com/example/adjoinery/adjoinery/FeatureList"
abbrev cTR : String := "com/example/adjoinery/adjoinery/Trail"
abbrev cAL : String := "java/util/ArrayList"
abbrev cST : String := "java/lang/String"
/-- the method that the table's word 0 names, and its name -/
def mnS : MethodName := match tables_1[0]? with | some (Jvm.Cond.methodLink _ _ y) => y | _ => x
def nmS : String := mnS.name
/-- where the walk stands, and what is still to come of it -/
abbrev Go (tb : Tables) (e : Env) (below : List Frame) (P : State → Outcome → Prop) (σ : State) : Prop := ∃ s₂ o, Steps tb e below σ s₂ ∧ P s₂ o
theorem go_st {tb : Tables} {e : Env} {below : List Frame} {P : State → Outcome → Prop} {σ σ' : State} (st : ∀ t, Steps tb e below σ' t → Steps tb e below σ t) (k : Go tb e below P σ') : Go tb e below P σ := by
  obtain ⟨a, b, c, d⟩ := k; exact ⟨a, b, st _ c, d⟩
theorem go_tr {tb : Tables} {e : Env} {below : List Frame} {P : State → Outcome → Prop} {σ σ' : State} (st : Steps tb e below σ σ') (k : Go tb e below P σ') : Go tb e below P σ := by
  obtain ⟨a, b, c, d⟩ := k; exact ⟨a, b, st.trans c, d⟩
theorem go_named {tb : Tables} {e : Env} {below : List Frame} {P : State → Outcome → Prop} {σ : State} (k : ∀ P', P' = P → Go tb e below P' σ) : Go tb e below P σ := k P rfl
theorem ext_rfl (h : Heap) : Ext h h := ⟨Nat.le_refl _, fun _ _ q => q⟩
theorem ext_tr {h h' h'' : Heap} (E : Ext h h') (E' : Ext h' h'') : Ext h h'' := ⟨Nat.le_trans E.1 E'.1, fun a c q => E'.2 a c (E.2 a c q)⟩
theorem ext_keep {h h' h'' : Heap} {ws : List Addr} (E : Ext h h') (K : Keep h' h'' ws) (q : ∀ x ∈ ws, h.size ≤ x) : Ext h h'' :=
  ⟨Nat.le_trans E.1 K.1, fun a c r => K.2.1 a c (E.2 a c r) fun z => absurd (Array.getElem?_eq_some_iff.mp r).1 (Nat.not_lt.mpr (q a z))⟩
theorem ext_wr {h h' h'' : Heap} {b : Addr} {sl : Nat} {v : Value} (E : Ext h h') (W : Wr h' h'' b sl v) (q : h.size ≤ b) : Ext h h'' := ext_keep E (Keep.of_wr W) (allS q all0)
theorem keep_of_ext {h h' : Heap} (E : Ext h h') : Keep h h' [] := (Keep.refl h []).ext E
theorem ref_cat {v : Value} (h : v.isRef = true) : v.category = 1 := by rcases ref_cases h with rfl | ⟨a, rfl⟩ <;> rfl
theorem ref_fits {v : Value} (C : String) (h : v.isRef = true) : fits (.object C) v = true := by rcases ref_cases h with rfl | ⟨a, rfl⟩ <;> rfl
theorem ref_narrow {v : Value} (C : String) (h : v.isRef = true) : narrow (.object C) v = v := by rcases ref_cases h with rfl | ⟨a, rfl⟩ <;> rfl
theorem nf_same {s : State} {a0 : Array Value} {y y' : MethodName} (hc : y'.cls = y.cls) (hi : (Jvm.Cond.instanceMethod y').before a0 s = true) (nf : NotFace s y') : NotFace s y := fun r0 h0 => by
  obtain ⟨mk, methM, hnamed, -⟩ := Cond.instanceMethod_spec hi
  obtain ⟨k, hk, hn⟩ := nf mk hnamed
  have e1 := findClass_of_methodNamed h0
  have e2 := findClass_of_methodNamed hnamed
  rw [hc, e1] at e2
  exact ⟨k, (Option.some.inj e2) ▸ hk, hn⟩
theorem sel_priv {s : State} {a0 : Array Value} {y : MethodName} (wp : (Jvm.Cond.privateMethod y).before a0 s = true) (wi : (Jvm.Cond.instanceMethod y).before a0 s = true) (nf : NotFace s y) (hy : y.cls ≠ "java/lang/invoke/MethodHandle" ∧ y.cls ≠ "java/lang/invoke/VarHandle") : (Jvm.Cond.selects y.cls y y).before a0 s = true := by
  obtain ⟨mk, methM, hnamed, -⟩ := Cond.instanceMethod_spec wi
  obtain ⟨k, hk, hn⟩ := nf mk hnamed
  exact selects_self_of_private (findClass_of_methodNamed hnamed) hk hn (Cond.privateMethod_at wp) wi hy
theorem same_self {s : State} {a0 : Array Value} {y : MethodName} (wi : (Jvm.Cond.instanceMethod y).before a0 s = true) (nf : NotFace s y) (hy : y.cls ≠ "java/lang/invoke/MethodHandle" ∧ y.cls ≠ "java/lang/invoke/VarHandle") : (Jvm.Cond.sameMethod y.cls y.cls y.name y.desc).before a0 s = true := by
  obtain ⟨mk, methM, hnamed, -⟩ := Cond.instanceMethod_spec wi
  obtain ⟨k, hk, hn⟩ := nf mk hnamed
  have hf := State.methodFound?_of_named hnamed hy
  have hc := findClass_of_methodNamed hnamed
  have hn' : s.methodNamed? ⟨y.cls, y.name, y.desc⟩ = some mk := hnamed
  simp [Cond.before, Cond.holds, Cond.value, hc, hf, hn', hk, hn]
theorem w49 {Z : State} {a0 : Array Value} (hw : ∀ d ∈ tables_1, d.before a0 Z = true) : (Jvm.Cond.stringLink "java/lang/String" (7 : Nat) "").before a0 Z = true := hw _ (List.mem_of_getElem? (i := 49) rfl)
theorem w75 {Z : State} {a0 : Array Value} (hw : ∀ d ∈ tables_1, d.before a0 Z = true) : (Jvm.Cond.stringLink "com/example/adjoinery/adjoinery/FeatureValue" (24 : Nat) "atom").before a0 Z = true := hw _ (List.mem_of_getElem? (i := 75) rfl)
theorem pn_java_lang_String : plainName "java/lang/String" = true := by first | (simp [plainName, overriddenIn]; done) | decide +kernel
theorem w38 {Z : State} {a0 : Array Value} (hw : ∀ d ∈ tables_1, d.before a0 Z = true) : (Jvm.Cond.instantiable "java/lang/String" (4 : Nat)).before a0 Z = true := hw _ (List.mem_of_getElem? (i := 38) rfl)
theorem d0_0 : decode jdk_42_method_149_code 0 = .ok (.aload_n 0, 1) := by decide +kernel
theorem d0_1 : decode jdk_42_method_149_code 1 = .ok (.invokespecial 1, 3) := by decide +kernel
theorem w48 {Z : State} {a0 : Array Value} (hw : ∀ d ∈ tables_1, d.before a0 Z = true) : (Jvm.Cond.methodLink "java/lang/String" (1 : Nat) ({ cls := "java/lang/Object", name := "<init>", desc := "()V" } : Jvm.MethodName)).before a0 Z = true := hw _ (List.mem_of_getElem? (i := 48) rfl)
theorem w13 {Z : State} {a0 : Array Value} (hw : ∀ d ∈ tables_1, d.before a0 Z = true) : (Jvm.Cond.instanceMethod ({ cls := "java/lang/Object", name := "<init>", desc := "()V" } : Jvm.MethodName)).before a0 Z = true := hw _ (List.mem_of_getElem? (i := 13) rfl)
theorem w14 {Z : State} {a0 : Array Value} (hw : ∀ d ∈ tables_1, d.before a0 Z = true) : (Jvm.Cond.code ({ cls := "java/lang/Object", name := "<init>", desc := "()V" } : Jvm.MethodName) object_method_1_code (1 : Nat) (Option.none : Option Jvm.ClassFile.FieldType)).before a0 Z = true := hw _ (List.mem_of_getElem? (i := 14) rfl)
theorem d0_4 : decode jdk_42_method_149_code 4 = .ok (.iload_n 3, 1) := by decide +kernel
theorem d0_5 : decode jdk_42_method_149_code 5 = .ok (.ifCond .ne 22, 3) := by decide +kernel
theorem d0_8 : decode jdk_42_method_149_code 8 = .ok (.aload_n 0, 1) := by decide +kernel
theorem d0_9 : decode jdk_42_method_149_code 9 = .ok (.ldc 7, 2) := by decide +kernel
theorem d0_11 : decode jdk_42_method_149_code 11 = .ok (.getfield 9, 3) := by decide +kernel
theorem w55 {Z : State} {a0 : Array Value} (hw : ∀ d ∈ tables_1, d.before a0 Z = true) : (Jvm.Cond.fieldLink "java/lang/String" (9 : Nat) "java/lang/String" "value" "[B").before a0 Z = true := hw _ (List.mem_of_getElem? (i := 55) rfl)
theorem d0_14 : decode jdk_42_method_149_code 14 = .ok (.putfield 9, 3) := by decide +kernel
theorem w51 {Z : State} {a0 : Array Value} (hw : ∀ d ∈ tables_1, d.before a0 Z = true) : (Jvm.Cond.laysFinal "java/lang/String" "java/lang/String" "value" "[B").before a0 Z = true := hw _ (List.mem_of_getElem? (i := 51) rfl)
theorem d0_17 : decode jdk_42_method_149_code 17 = .ok (.aload_n 0, 1) := by decide +kernel
theorem d0_18 : decode jdk_42_method_149_code 18 = .ok (.ldc 7, 2) := by decide +kernel
theorem d0_20 : decode jdk_42_method_149_code 20 = .ok (.getfield 15, 3) := by decide +kernel
theorem w56 {Z : State} {a0 : Array Value} (hw : ∀ d ∈ tables_1, d.before a0 Z = true) : (Jvm.Cond.fieldLink "java/lang/String" (15 : Nat) "java/lang/String" "coder" "B").before a0 Z = true := hw _ (List.mem_of_getElem? (i := 56) rfl)
theorem d0_23 : decode jdk_42_method_149_code 23 = .ok (.putfield 15, 3) := by decide +kernel
theorem w52 {Z : State} {a0 : Array Value} (hw : ∀ d ∈ tables_1, d.before a0 Z = true) : (Jvm.Cond.laysFinal "java/lang/String" "java/lang/String" "coder" "B").before a0 Z = true := hw _ (List.mem_of_getElem? (i := 52) rfl)
theorem d0_26 : decode jdk_42_method_149_code 26 = .ok (.return_, 1) := by decide +kernel
theorem d1_0 : decode jdk_42_method_3_code 0 = .ok (.aload_n 0, 1) := by decide +kernel
theorem d1_1 : decode jdk_42_method_3_code 1 = .ok (.aload_n 1, 1) := by decide +kernel
theorem d1_2 : decode jdk_42_method_3_code 2 = .ok (.iconst 0, 1) := by decide +kernel
theorem d1_3 : decode jdk_42_method_3_code 3 = .ok (.aload_n 1, 1) := by decide +kernel
theorem d1_4 : decode jdk_42_method_3_code 4 = .ok (.arraylength, 1) := by decide +kernel
theorem d1_5 : decode jdk_42_method_3_code 5 = .ok (.aconst_null, 1) := by decide +kernel
theorem d1_6 : decode jdk_42_method_3_code 6 = .ok (.invokespecial 27, 3) := by decide +kernel
theorem w47 {Z : State} {a0 : Array Value} (hw : ∀ d ∈ tables_1, d.before a0 Z = true) : (Jvm.Cond.code ({ cls := "java/lang/String", name := "<init>", desc := "([CIILjava/lang/Void;)V" } : Jvm.MethodName) jdk_42_method_149_code (6 : Nat) (Option.none : Option Jvm.ClassFile.FieldType)).before a0 Z = true := hw _ (List.mem_of_getElem? (i := 47) rfl)
theorem w39 {Z : State} {a0 : Array Value} (hw : ∀ d ∈ tables_1, d.before a0 Z = true) : (Jvm.Cond.initialized "java/lang/String").before a0 Z = true := hw _ (List.mem_of_getElem? (i := 39) rfl)
theorem pd_0 : parseMethodDescriptor "([CIILjava/lang/Void;)V" = some ⟨[(.array .char), .int, .int, (.object "java/lang/Void")], none⟩ := by decide +kernel
theorem w44 {Z : State} {a0 : Array Value} (hw : ∀ d ∈ tables_1, d.before a0 Z = true) : (Jvm.Cond.methodLink "java/lang/String" (27 : Nat) ({ cls := "java/lang/String", name := "<init>", desc := "([CIILjava/lang/Void;)V" } : Jvm.MethodName)).before a0 Z = true := hw _ (List.mem_of_getElem? (i := 44) rfl)
theorem w45 {Z : State} {a0 : Array Value} (hw : ∀ d ∈ tables_1, d.before a0 Z = true) : (Jvm.Cond.instanceMethod ({ cls := "java/lang/String", name := "<init>", desc := "([CIILjava/lang/Void;)V" } : Jvm.MethodName)).before a0 Z = true := hw _ (List.mem_of_getElem? (i := 45) rfl)
theorem d1_9 : decode jdk_42_method_3_code 9 = .ok (.return_, 1) := by decide +kernel
theorem pn_java_util_AbstractCollection : plainName "java/util/AbstractCollection" = true := by first | (simp [plainName, overriddenIn]; done) | decide +kernel
theorem d2_0 : decode jdk_22_method_1_code 0 = .ok (.aload_n 0, 1) := by decide +kernel
theorem d2_1 : decode jdk_22_method_1_code 1 = .ok (.invokespecial 1, 3) := by decide +kernel
theorem w149 {Z : State} {a0 : Array Value} (hw : ∀ d ∈ tables_1, d.before a0 Z = true) : (Jvm.Cond.methodLink "java/util/AbstractCollection" (1 : Nat) ({ cls := "java/lang/Object", name := "<init>", desc := "()V" } : Jvm.MethodName)).before a0 Z = true := hw _ (List.mem_of_getElem? (i := 149) rfl)
theorem d2_4 : decode jdk_22_method_1_code 4 = .ok (.return_, 1) := by decide +kernel
theorem pn_java_util_AbstractList : plainName "java/util/AbstractList" = true := by first | (simp [plainName, overriddenIn]; done) | decide +kernel
theorem d3_0 : decode jdk_39_method_1_code 0 = .ok (.aload_n 0, 1) := by decide +kernel
theorem d3_1 : decode jdk_39_method_1_code 1 = .ok (.invokespecial 1, 3) := by decide +kernel
theorem w148 {Z : State} {a0 : Array Value} (hw : ∀ d ∈ tables_1, d.before a0 Z = true) : (Jvm.Cond.code ({ cls := "java/util/AbstractCollection", name := "<init>", desc := "()V" } : Jvm.MethodName) jdk_22_method_1_code (1 : Nat) (Option.none : Option Jvm.ClassFile.FieldType)).before a0 Z = true := hw _ (List.mem_of_getElem? (i := 148) rfl)
theorem w147 {Z : State} {a0 : Array Value} (hw : ∀ d ∈ tables_1, d.before a0 Z = true) : (Jvm.Cond.initialized "java/util/AbstractCollection").before a0 Z = true := hw _ (List.mem_of_getElem? (i := 147) rfl)
theorem pd_1 : parseMethodDescriptor "()V" = some ⟨[], none⟩ := by decide +kernel
theorem w143 {Z : State} {a0 : Array Value} (hw : ∀ d ∈ tables_1, d.before a0 Z = true) : (Jvm.Cond.methodLink "java/util/AbstractList" (1 : Nat) ({ cls := "java/util/AbstractCollection", name := "<init>", desc := "()V" } : Jvm.MethodName)).before a0 Z = true := hw _ (List.mem_of_getElem? (i := 143) rfl)
theorem w144 {Z : State} {a0 : Array Value} (hw : ∀ d ∈ tables_1, d.before a0 Z = true) : (Jvm.Cond.instanceMethod ({ cls := "java/util/AbstractCollection", name := "<init>", desc := "()V" } : Jvm.MethodName)).before a0 Z = true := hw _ (List.mem_of_getElem? (i := 144) rfl)
theorem d3_4 : decode jdk_39_method_1_code 4 = .ok (.aload_n 0, 1) := by decide +kernel
theorem d3_5 : decode jdk_39_method_1_code 5 = .ok (.iconst 0, 1) := by decide +kernel
theorem d3_6 : decode jdk_39_method_1_code 6 = .ok (.putfield 7, 3) := by decide +kernel
theorem w150 {Z : State} {a0 : Array Value} (hw : ∀ d ∈ tables_1, d.before a0 Z = true) : (Jvm.Cond.fieldLink "java/util/AbstractList" (7 : Nat) "java/util/AbstractList" "modCount" "I").before a0 Z = true := hw _ (List.mem_of_getElem? (i := 150) rfl)
theorem w151 {Z : State} {a0 : Array Value} (hw : ∀ d ∈ tables_1, d.before a0 Z = true) : (Jvm.Cond.lays "java/util/ArrayList" "java/util/AbstractList" "modCount" "I").before a0 Z = true := hw _ (List.mem_of_getElem? (i := 151) rfl)
theorem w132 {Z : State} {a0 : Array Value} (hw : ∀ d ∈ tables_1, d.before a0 Z = true) : (Jvm.Cond.instantiable "java/util/ArrayList" (3 : Nat)).before a0 Z = true := hw _ (List.mem_of_getElem? (i := 132) rfl)
theorem d3_9 : decode jdk_39_method_1_code 9 = .ok (.return_, 1) := by decide +kernel
theorem w154 {Z : State} {a0 : Array Value} (hw : ∀ d ∈ tables_1, d.before a0 Z = true) : (Jvm.Cond.lays "java/util/ArrayList" "java/util/ArrayList" "elementData" "[Ljava/lang/Object;").before a0 Z = true := hw _ (List.mem_of_getElem? (i := 154) rfl)
theorem w212 {Z : State} {a0 : Array Value} (hw : ∀ d ∈ tables_1, d.before a0 Z = true) : (Jvm.Cond.lays "java/util/ArrayList" "java/util/ArrayList" "size" "I").before a0 Z = true := hw _ (List.mem_of_getElem? (i := 212) rfl)
theorem pn_java_util_ArrayList : plainName "java/util/ArrayList" = true := by first | (simp [plainName, overriddenIn]; done) | decide +kernel
theorem d4_0 : decode jdk_38_method_2_code 0 = .ok (.aload_n 0, 1) := by decide +kernel
theorem d4_1 : decode jdk_38_method_2_code 1 = .ok (.invokespecial 1, 3) := by decide +kernel
theorem w142 {Z : State} {a0 : Array Value} (hw : ∀ d ∈ tables_1, d.before a0 Z = true) : (Jvm.Cond.code ({ cls := "java/util/AbstractList", name := "<init>", desc := "()V" } : Jvm.MethodName) jdk_39_method_1_code (1 : Nat) (Option.none : Option Jvm.ClassFile.FieldType)).before a0 Z = true := hw _ (List.mem_of_getElem? (i := 142) rfl)
theorem w141 {Z : State} {a0 : Array Value} (hw : ∀ d ∈ tables_1, d.before a0 Z = true) : (Jvm.Cond.initialized "java/util/AbstractList").before a0 Z = true := hw _ (List.mem_of_getElem? (i := 141) rfl)
theorem w137 {Z : State} {a0 : Array Value} (hw : ∀ d ∈ tables_1, d.before a0 Z = true) : (Jvm.Cond.methodLink "java/util/ArrayList" (1 : Nat) ({ cls := "java/util/AbstractList", name := "<init>", desc := "()V" } : Jvm.MethodName)).before a0 Z = true := hw _ (List.mem_of_getElem? (i := 137) rfl)
theorem w138 {Z : State} {a0 : Array Value} (hw : ∀ d ∈ tables_1, d.before a0 Z = true) : (Jvm.Cond.instanceMethod ({ cls := "java/util/AbstractList", name := "<init>", desc := "()V" } : Jvm.MethodName)).before a0 Z = true := hw _ (List.mem_of_getElem? (i := 138) rfl)
theorem d4_4 : decode jdk_38_method_2_code 4 = .ok (.aload_n 0, 1) := by decide +kernel
theorem d4_5 : decode jdk_38_method_2_code 5 = .ok (.getstatic 39, 3) := by decide +kernel
theorem w152 {Z : State} {a0 : Array Value} (hw : ∀ d ∈ tables_1, d.before a0 Z = true) : (Jvm.Cond.fieldLink "java/util/ArrayList" (39 : Nat) "java/util/ArrayList" "DEFAULTCAPACITY_EMPTY_ELEMENTDATA" "[Ljava/lang/Object;").before a0 Z = true := hw _ (List.mem_of_getElem? (i := 152) rfl)
theorem d4_8 : decode jdk_38_method_2_code 8 = .ok (.putfield 9, 3) := by decide +kernel
theorem w153 {Z : State} {a0 : Array Value} (hw : ∀ d ∈ tables_1, d.before a0 Z = true) : (Jvm.Cond.fieldLink "java/util/ArrayList" (9 : Nat) "java/util/ArrayList" "elementData" "[Ljava/lang/Object;").before a0 Z = true := hw _ (List.mem_of_getElem? (i := 153) rfl)
theorem d4_11 : decode jdk_38_method_2_code 11 = .ok (.return_, 1) := by decide +kernel
theorem pn_java_util_ArrayDeque : plainName "java/util/ArrayDeque" = true := by first | (simp [plainName, overriddenIn]; done) | decide +kernel
theorem d5_0 : decode jdk_21_method_3_code 0 = .ok (.aload_n 0, 1) := by decide +kernel
theorem d5_1 : decode jdk_21_method_3_code 1 = .ok (.invokespecial 42, 3) := by decide +kernel
theorem w165 {Z : State} {a0 : Array Value} (hw : ∀ d ∈ tables_1, d.before a0 Z = true) : (Jvm.Cond.methodLink "java/util/ArrayDeque" (42 : Nat) ({ cls := "java/util/AbstractCollection", name := "<init>", desc := "()V" } : Jvm.MethodName)).before a0 Z = true := hw _ (List.mem_of_getElem? (i := 165) rfl)
theorem d5_4 : decode jdk_21_method_3_code 4 = .ok (.aload_n 0, 1) := by decide +kernel
theorem d5_5 : decode jdk_21_method_3_code 5 = .ok (.bipush 17, 2) := by decide +kernel
theorem d5_7 : decode jdk_21_method_3_code 7 = .ok (.anewarray 47, 3) := by decide +kernel
theorem w167 {Z : State} {a0 : Array Value} (hw : ∀ d ∈ tables_1, d.before a0 Z = true) : (Jvm.Cond.classLink "java/util/ArrayDeque" (47 : Nat) "java/lang/Object").before a0 Z = true := hw _ (List.mem_of_getElem? (i := 167) rfl)
theorem w168 {Z : State} {a0 : Array Value} (hw : ∀ d ∈ tables_1, d.before a0 Z = true) : (Jvm.Cond.arrayOver (Jvm.ClassFile.FieldType.object "java/lang/Object")).before a0 Z = true := hw _ (List.mem_of_getElem? (i := 168) rfl)
theorem d5_10 : decode jdk_21_method_3_code 10 = .ok (.putfield 3, 3) := by decide +kernel
theorem w169 {Z : State} {a0 : Array Value} (hw : ∀ d ∈ tables_1, d.before a0 Z = true) : (Jvm.Cond.fieldLink "java/util/ArrayDeque" (3 : Nat) "java/util/ArrayDeque" "elements" "[Ljava/lang/Object;").before a0 Z = true := hw _ (List.mem_of_getElem? (i := 169) rfl)
theorem w170 {Z : State} {a0 : Array Value} (hw : ∀ d ∈ tables_1, d.before a0 Z = true) : (Jvm.Cond.lays "java/util/ArrayDeque" "java/util/ArrayDeque" "elements" "[Ljava/lang/Object;").before a0 Z = true := hw _ (List.mem_of_getElem? (i := 170) rfl)
theorem w160 {Z : State} {a0 : Array Value} (hw : ∀ d ∈ tables_1, d.before a0 Z = true) : (Jvm.Cond.instantiable "java/util/ArrayDeque" (3 : Nat)).before a0 Z = true := hw _ (List.mem_of_getElem? (i := 160) rfl)
theorem d5_13 : decode jdk_21_method_3_code 13 = .ok (.return_, 1) := by decide +kernel
theorem d6_0 : decode jdk_29_method_65_code 0 = .ok (.iload_n 0, 1) := by decide +kernel
theorem d6_1 : decode jdk_29_method_65_code 1 = .ok (.iload_n 1, 1) := by decide +kernel
theorem d6_2 : decode jdk_29_method_65_code 2 = .ok (.if_icmp .lt 7, 3) := by decide +kernel
theorem d6_5 : decode jdk_29_method_65_code 5 = .ok (.iload_n 0, 1) := by decide +kernel
theorem d6_6 : decode jdk_29_method_65_code 6 = .ok (.goto 4, 3) := by decide +kernel
theorem d6_10 : decode jdk_29_method_65_code 10 = .ok (.ireturn, 1) := by decide +kernel
theorem d7_0 : decode jdk_38_method_6_code 0 = .ok (.aload_n 0, 1) := by decide +kernel
theorem d7_1 : decode jdk_38_method_6_code 1 = .ok (.getfield 9, 3) := by decide +kernel
theorem d7_4 : decode jdk_38_method_6_code 4 = .ok (.arraylength, 1) := by decide +kernel
theorem d7_5 : decode jdk_38_method_6_code 5 = .ok (.istore_n 2, 1) := by decide +kernel
theorem d7_6 : decode jdk_38_method_6_code 6 = .ok (.iload_n 2, 1) := by decide +kernel
theorem d7_7 : decode jdk_38_method_6_code 7 = .ok (.ifCond .gt 13, 3) := by decide +kernel
theorem d7_10 : decode jdk_38_method_6_code 10 = .ok (.aload_n 0, 1) := by decide +kernel
theorem d7_11 : decode jdk_38_method_6_code 11 = .ok (.getfield 9, 3) := by decide +kernel
theorem d7_14 : decode jdk_38_method_6_code 14 = .ok (.getstatic 39, 3) := by decide +kernel
theorem d7_17 : decode jdk_38_method_6_code 17 = .ok (.if_acmp .eq 28, 3) := by decide +kernel
theorem d7_45 : decode jdk_38_method_6_code 45 = .ok (.aload_n 0, 1) := by decide +kernel
theorem d7_46 : decode jdk_38_method_6_code 46 = .ok (.bipush 10, 2) := by decide +kernel
theorem d7_48 : decode jdk_38_method_6_code 48 = .ok (.iload_n 1, 1) := by decide +kernel
theorem d7_49 : decode jdk_38_method_6_code 49 = .ok (.invokestatic 79, 3) := by decide +kernel
theorem w231 {Z : State} {a0 : Array Value} (hw : ∀ d ∈ tables_1, d.before a0 Z = true) : (Jvm.Cond.code ({ cls := "java/lang/Math", name := "max", desc := "(II)I" } : Jvm.MethodName) jdk_29_method_65_code (2 : Nat) (Option.some Jvm.ClassFile.FieldType.int)).before a0 Z = true := hw _ (List.mem_of_getElem? (i := 231) rfl)
theorem w230 {Z : State} {a0 : Array Value} (hw : ∀ d ∈ tables_1, d.before a0 Z = true) : (Jvm.Cond.initialized "java/lang/Math").before a0 Z = true := hw _ (List.mem_of_getElem? (i := 230) rfl)
theorem pd_2 : parseMethodDescriptor "(II)I" = some ⟨[.int, .int], some .int⟩ := by decide +kernel
theorem w228 {Z : State} {a0 : Array Value} (hw : ∀ d ∈ tables_1, d.before a0 Z = true) : (Jvm.Cond.methodLink "java/util/ArrayList" (79 : Nat) ({ cls := "java/lang/Math", name := "max", desc := "(II)I" } : Jvm.MethodName)).before a0 Z = true := hw _ (List.mem_of_getElem? (i := 228) rfl)
theorem w229 {Z : State} {a0 : Array Value} (hw : ∀ d ∈ tables_1, d.before a0 Z = true) : (Jvm.Cond.static ({ cls := "java/lang/Math", name := "max", desc := "(II)I" } : Jvm.MethodName)).before a0 Z = true := hw _ (List.mem_of_getElem? (i := 229) rfl)
theorem d7_52 : decode jdk_38_method_6_code 52 = .ok (.anewarray 7, 3) := by decide +kernel
theorem w232 {Z : State} {a0 : Array Value} (hw : ∀ d ∈ tables_1, d.before a0 Z = true) : (Jvm.Cond.classLink "java/util/ArrayList" (7 : Nat) "java/lang/Object").before a0 Z = true := hw _ (List.mem_of_getElem? (i := 232) rfl)
theorem d7_55 : decode jdk_38_method_6_code 55 = .ok (.dup_x1, 1) := by decide +kernel
theorem d7_56 : decode jdk_38_method_6_code 56 = .ok (.putfield 9, 3) := by decide +kernel
theorem d7_59 : decode jdk_38_method_6_code 59 = .ok (.areturn, 1) := by decide +kernel
theorem d8_0 : decode jdk_38_method_7_code 0 = .ok (.aload_n 0, 1) := by decide +kernel
theorem d8_1 : decode jdk_38_method_7_code 1 = .ok (.aload_n 0, 1) := by decide +kernel
theorem d8_2 : decode jdk_38_method_7_code 2 = .ok (.getfield 48, 3) := by decide +kernel
theorem w211 {Z : State} {a0 : Array Value} (hw : ∀ d ∈ tables_1, d.before a0 Z = true) : (Jvm.Cond.fieldLink "java/util/ArrayList" (48 : Nat) "java/util/ArrayList" "size" "I").before a0 Z = true := hw _ (List.mem_of_getElem? (i := 211) rfl)
theorem d8_5 : decode jdk_38_method_7_code 5 = .ok (.iconst 1, 1) := by decide +kernel
theorem d8_6 : decode jdk_38_method_7_code 6 = .ok (.iadd, 1) := by decide +kernel
theorem d8_7 : decode jdk_38_method_7_code 7 = .ok (.invokevirtual 69, 3) := by decide +kernel
theorem w227 {Z : State} {a0 : Array Value} (hw : ∀ d ∈ tables_1, d.before a0 Z = true) : (Jvm.Cond.code ({ cls := "java/util/ArrayList", name := "grow", desc := "(I)[Ljava/lang/Object;" } : Jvm.MethodName) jdk_38_method_6_code (4 : Nat) (Option.some (Jvm.ClassFile.FieldType.array (Jvm.ClassFile.FieldType.object "java/lang/Object")))).before a0 Z = true := hw _ (List.mem_of_getElem? (i := 227) rfl)
theorem w133 {Z : State} {a0 : Array Value} (hw : ∀ d ∈ tables_1, d.before a0 Z = true) : (Jvm.Cond.initialized "java/util/ArrayList").before a0 Z = true := hw _ (List.mem_of_getElem? (i := 133) rfl)
theorem pd_3 : parseMethodDescriptor "(I)[Ljava/lang/Object;" = some ⟨[.int], some (.array (.object "java/lang/Object"))⟩ := by decide +kernel
theorem w223 {Z : State} {a0 : Array Value} (hw : ∀ d ∈ tables_1, d.before a0 Z = true) : (Jvm.Cond.methodLink "java/util/ArrayList" (69 : Nat) ({ cls := "java/util/ArrayList", name := "grow", desc := "(I)[Ljava/lang/Object;" } : Jvm.MethodName)).before a0 Z = true := hw _ (List.mem_of_getElem? (i := 223) rfl)
theorem w226 {Z : State} {a0 : Array Value} (hw : ∀ d ∈ tables_1, d.before a0 Z = true) : (Jvm.Cond.selects "java/util/ArrayList" ({ cls := "java/util/ArrayList", name := "grow", desc := "(I)[Ljava/lang/Object;" } : Jvm.MethodName) ({ cls := "java/util/ArrayList", name := "grow", desc := "(I)[Ljava/lang/Object;" } : Jvm.MethodName)).before a0 Z = true := hw _ (List.mem_of_getElem? (i := 226) rfl)
theorem w224 {Z : State} {a0 : Array Value} (hw : ∀ d ∈ tables_1, d.before a0 Z = true) : (Jvm.Cond.instanceMethod ({ cls := "java/util/ArrayList", name := "grow", desc := "(I)[Ljava/lang/Object;" } : Jvm.MethodName)).before a0 Z = true := hw _ (List.mem_of_getElem? (i := 224) rfl)
theorem w225 {Z : State} {a0 : Array Value} (hw : ∀ d ∈ tables_1, d.before a0 Z = true) : (Jvm.Cond.privateMethod ({ cls := "java/util/ArrayList", name := "grow", desc := "(I)[Ljava/lang/Object;" } : Jvm.MethodName)).before a0 Z = true := hw _ (List.mem_of_getElem? (i := 225) rfl)
theorem d8_10 : decode jdk_38_method_7_code 10 = .ok (.areturn, 1) := by decide +kernel
theorem d9_0 : decode jdk_38_method_24_code 0 = .ok (.iload_n 3, 1) := by decide +kernel
theorem d9_1 : decode jdk_38_method_24_code 1 = .ok (.aload_n 2, 1) := by decide +kernel
theorem d9_2 : decode jdk_38_method_24_code 2 = .ok (.arraylength, 1) := by decide +kernel
theorem d9_3 : decode jdk_38_method_24_code 3 = .ok (.if_icmp .ne 8, 3) := by decide +kernel
theorem d9_6 : decode jdk_38_method_24_code 6 = .ok (.aload_n 0, 1) := by decide +kernel
theorem d9_7 : decode jdk_38_method_24_code 7 = .ok (.invokevirtual 129, 3) := by decide +kernel
theorem w222 {Z : State} {a0 : Array Value} (hw : ∀ d ∈ tables_1, d.before a0 Z = true) : (Jvm.Cond.code ({ cls := "java/util/ArrayList", name := "grow", desc := "()[Ljava/lang/Object;" } : Jvm.MethodName) jdk_38_method_7_code (1 : Nat) (Option.some (Jvm.ClassFile.FieldType.array (Jvm.ClassFile.FieldType.object "java/lang/Object")))).before a0 Z = true := hw _ (List.mem_of_getElem? (i := 222) rfl)
theorem pd_4 : parseMethodDescriptor "()[Ljava/lang/Object;" = some ⟨[], some (.array (.object "java/lang/Object"))⟩ := by decide +kernel
theorem w218 {Z : State} {a0 : Array Value} (hw : ∀ d ∈ tables_1, d.before a0 Z = true) : (Jvm.Cond.methodLink "java/util/ArrayList" (129 : Nat) ({ cls := "java/util/ArrayList", name := "grow", desc := "()[Ljava/lang/Object;" } : Jvm.MethodName)).before a0 Z = true := hw _ (List.mem_of_getElem? (i := 218) rfl)
theorem w221 {Z : State} {a0 : Array Value} (hw : ∀ d ∈ tables_1, d.before a0 Z = true) : (Jvm.Cond.selects "java/util/ArrayList" ({ cls := "java/util/ArrayList", name := "grow", desc := "()[Ljava/lang/Object;" } : Jvm.MethodName) ({ cls := "java/util/ArrayList", name := "grow", desc := "()[Ljava/lang/Object;" } : Jvm.MethodName)).before a0 Z = true := hw _ (List.mem_of_getElem? (i := 221) rfl)
theorem w219 {Z : State} {a0 : Array Value} (hw : ∀ d ∈ tables_1, d.before a0 Z = true) : (Jvm.Cond.instanceMethod ({ cls := "java/util/ArrayList", name := "grow", desc := "()[Ljava/lang/Object;" } : Jvm.MethodName)).before a0 Z = true := hw _ (List.mem_of_getElem? (i := 219) rfl)
theorem w220 {Z : State} {a0 : Array Value} (hw : ∀ d ∈ tables_1, d.before a0 Z = true) : (Jvm.Cond.privateMethod ({ cls := "java/util/ArrayList", name := "grow", desc := "()[Ljava/lang/Object;" } : Jvm.MethodName)).before a0 Z = true := hw _ (List.mem_of_getElem? (i := 220) rfl)
theorem d9_10 : decode jdk_38_method_24_code 10 = .ok (.astore_n 2, 1) := by decide +kernel
theorem d9_11 : decode jdk_38_method_24_code 11 = .ok (.aload_n 2, 1) := by decide +kernel
theorem d9_12 : decode jdk_38_method_24_code 12 = .ok (.iload_n 3, 1) := by decide +kernel
theorem d9_13 : decode jdk_38_method_24_code 13 = .ok (.aload_n 1, 1) := by decide +kernel
theorem d9_14 : decode jdk_38_method_24_code 14 = .ok (.aastore, 1) := by decide +kernel
theorem d9_15 : decode jdk_38_method_24_code 15 = .ok (.aload_n 0, 1) := by decide +kernel
theorem d9_16 : decode jdk_38_method_24_code 16 = .ok (.iload_n 3, 1) := by decide +kernel
theorem d9_17 : decode jdk_38_method_24_code 17 = .ok (.iconst 1, 1) := by decide +kernel
theorem d9_18 : decode jdk_38_method_24_code 18 = .ok (.iadd, 1) := by decide +kernel
theorem d9_19 : decode jdk_38_method_24_code 19 = .ok (.putfield 48, 3) := by decide +kernel
theorem d9_22 : decode jdk_38_method_24_code 22 = .ok (.return_, 1) := by decide +kernel
theorem d10_0 : decode jdk_38_method_25_code 0 = .ok (.aload_n 0, 1) := by decide +kernel
theorem d10_1 : decode jdk_38_method_25_code 1 = .ok (.dup, 1) := by decide +kernel
theorem d10_2 : decode jdk_38_method_25_code 2 = .ok (.getfield 63, 3) := by decide +kernel
theorem w209 {Z : State} {a0 : Array Value} (hw : ∀ d ∈ tables_1, d.before a0 Z = true) : (Jvm.Cond.fieldLink "java/util/ArrayList" (63 : Nat) "java/util/ArrayList" "modCount" "I").before a0 Z = true := hw _ (List.mem_of_getElem? (i := 209) rfl)
theorem w210 {Z : State} {a0 : Array Value} (hw : ∀ d ∈ tables_1, d.before a0 Z = true) : (Jvm.Cond.sameField "java/util/ArrayList" "java/util/AbstractList" "modCount" "I").before a0 Z = true := hw _ (List.mem_of_getElem? (i := 210) rfl)
theorem d10_5 : decode jdk_38_method_25_code 5 = .ok (.iconst 1, 1) := by decide +kernel
theorem d10_6 : decode jdk_38_method_25_code 6 = .ok (.iadd, 1) := by decide +kernel
theorem d10_7 : decode jdk_38_method_25_code 7 = .ok (.putfield 63, 3) := by decide +kernel
theorem d10_10 : decode jdk_38_method_25_code 10 = .ok (.aload_n 0, 1) := by decide +kernel
theorem d10_11 : decode jdk_38_method_25_code 11 = .ok (.aload_n 1, 1) := by decide +kernel
theorem d10_12 : decode jdk_38_method_25_code 12 = .ok (.aload_n 0, 1) := by decide +kernel
theorem d10_13 : decode jdk_38_method_25_code 13 = .ok (.getfield 9, 3) := by decide +kernel
theorem d10_16 : decode jdk_38_method_25_code 16 = .ok (.aload_n 0, 1) := by decide +kernel
theorem d10_17 : decode jdk_38_method_25_code 17 = .ok (.getfield 48, 3) := by decide +kernel
theorem d10_20 : decode jdk_38_method_25_code 20 = .ok (.invokevirtual 131, 3) := by decide +kernel
theorem w217 {Z : State} {a0 : Array Value} (hw : ∀ d ∈ tables_1, d.before a0 Z = true) : (Jvm.Cond.code ({ cls := "java/util/ArrayList", name := "add", desc := "(Ljava/lang/Object;[Ljava/lang/Object;I)V" } : Jvm.MethodName) jdk_38_method_24_code (4 : Nat) (Option.none : Option Jvm.ClassFile.FieldType)).before a0 Z = true := hw _ (List.mem_of_getElem? (i := 217) rfl)
theorem pd_5 : parseMethodDescriptor "(Ljava/lang/Object;[Ljava/lang/Object;I)V" = some ⟨[(.object "java/lang/Object"), (.array (.object "java/lang/Object")), .int], none⟩ := by decide +kernel
theorem w213 {Z : State} {a0 : Array Value} (hw : ∀ d ∈ tables_1, d.before a0 Z = true) : (Jvm.Cond.methodLink "java/util/ArrayList" (131 : Nat) ({ cls := "java/util/ArrayList", name := "add", desc := "(Ljava/lang/Object;[Ljava/lang/Object;I)V" } : Jvm.MethodName)).before a0 Z = true := hw _ (List.mem_of_getElem? (i := 213) rfl)
theorem w216 {Z : State} {a0 : Array Value} (hw : ∀ d ∈ tables_1, d.before a0 Z = true) : (Jvm.Cond.selects "java/util/ArrayList" ({ cls := "java/util/ArrayList", name := "add", desc := "(Ljava/lang/Object;[Ljava/lang/Object;I)V" } : Jvm.MethodName) ({ cls := "java/util/ArrayList", name := "add", desc := "(Ljava/lang/Object;[Ljava/lang/Object;I)V" } : Jvm.MethodName)).before a0 Z = true := hw _ (List.mem_of_getElem? (i := 216) rfl)
theorem w214 {Z : State} {a0 : Array Value} (hw : ∀ d ∈ tables_1, d.before a0 Z = true) : (Jvm.Cond.instanceMethod ({ cls := "java/util/ArrayList", name := "add", desc := "(Ljava/lang/Object;[Ljava/lang/Object;I)V" } : Jvm.MethodName)).before a0 Z = true := hw _ (List.mem_of_getElem? (i := 214) rfl)
theorem w215 {Z : State} {a0 : Array Value} (hw : ∀ d ∈ tables_1, d.before a0 Z = true) : (Jvm.Cond.privateMethod ({ cls := "java/util/ArrayList", name := "add", desc := "(Ljava/lang/Object;[Ljava/lang/Object;I)V" } : Jvm.MethodName)).before a0 Z = true := hw _ (List.mem_of_getElem? (i := 215) rfl)
theorem d10_23 : decode jdk_38_method_25_code 23 = .ok (.iconst 1, 1) := by decide +kernel
theorem d10_24 : decode jdk_38_method_25_code 24 = .ok (.ireturn, 1) := by decide +kernel
theorem pn_com_example_adjoinery_adjoinery_Trail : plainName "com/example/adjoinery/adjoinery/Trail" = true := by first | (simp [plainName, overriddenIn]; done) | decide +kernel
theorem d11_0 : decode prog_65_method_1_code 0 = .ok (.aload_n 0, 1) := by decide +kernel
theorem d11_1 : decode prog_65_method_1_code 1 = .ok (.invokespecial 1, 3) := by decide +kernel
theorem w130 {Z : State} {a0 : Array Value} (hw : ∀ d ∈ tables_1, d.before a0 Z = true) : (Jvm.Cond.methodLink "com/example/adjoinery/adjoinery/Trail" (1 : Nat) ({ cls := "java/lang/Object", name := "<init>", desc := "()V" } : Jvm.MethodName)).before a0 Z = true := hw _ (List.mem_of_getElem? (i := 130) rfl)
theorem d11_4 : decode prog_65_method_1_code 4 = .ok (.aload_n 0, 1) := by decide +kernel
theorem d11_5 : decode prog_65_method_1_code 5 = .ok (.new 7, 3) := by decide +kernel
theorem w131 {Z : State} {a0 : Array Value} (hw : ∀ d ∈ tables_1, d.before a0 Z = true) : (Jvm.Cond.classLink "com/example/adjoinery/adjoinery/Trail" (7 : Nat) "java/util/ArrayList").before a0 Z = true := hw _ (List.mem_of_getElem? (i := 131) rfl)
theorem d11_8 : decode prog_65_method_1_code 8 = .ok (.dup, 1) := by decide +kernel
theorem d11_9 : decode prog_65_method_1_code 9 = .ok (.invokespecial 9, 3) := by decide +kernel
theorem w136 {Z : State} {a0 : Array Value} (hw : ∀ d ∈ tables_1, d.before a0 Z = true) : (Jvm.Cond.code ({ cls := "java/util/ArrayList", name := "<init>", desc := "()V" } : Jvm.MethodName) jdk_38_method_2_code (1 : Nat) (Option.none : Option Jvm.ClassFile.FieldType)).before a0 Z = true := hw _ (List.mem_of_getElem? (i := 136) rfl)
theorem w134 {Z : State} {a0 : Array Value} (hw : ∀ d ∈ tables_1, d.before a0 Z = true) : (Jvm.Cond.methodLink "com/example/adjoinery/adjoinery/Trail" (9 : Nat) ({ cls := "java/util/ArrayList", name := "<init>", desc := "()V" } : Jvm.MethodName)).before a0 Z = true := hw _ (List.mem_of_getElem? (i := 134) rfl)
theorem w135 {Z : State} {a0 : Array Value} (hw : ∀ d ∈ tables_1, d.before a0 Z = true) : (Jvm.Cond.instanceMethod ({ cls := "java/util/ArrayList", name := "<init>", desc := "()V" } : Jvm.MethodName)).before a0 Z = true := hw _ (List.mem_of_getElem? (i := 135) rfl)
theorem d11_12 : decode prog_65_method_1_code 12 = .ok (.putfield 10, 3) := by decide +kernel
theorem w155 {Z : State} {a0 : Array Value} (hw : ∀ d ∈ tables_1, d.before a0 Z = true) : (Jvm.Cond.fieldLink "com/example/adjoinery/adjoinery/Trail" (10 : Nat) "com/example/adjoinery/adjoinery/Trail" "undos" "Ljava/util/List;").before a0 Z = true := hw _ (List.mem_of_getElem? (i := 155) rfl)
theorem w156 {Z : State} {a0 : Array Value} (hw : ∀ d ∈ tables_1, d.before a0 Z = true) : (Jvm.Cond.laysFinal "com/example/adjoinery/adjoinery/Trail" "com/example/adjoinery/adjoinery/Trail" "undos" "Ljava/util/List;").before a0 Z = true := hw _ (List.mem_of_getElem? (i := 156) rfl)
theorem w125 {Z : State} {a0 : Array Value} (hw : ∀ d ∈ tables_1, d.before a0 Z = true) : (Jvm.Cond.instantiable "com/example/adjoinery/adjoinery/Trail" (3 : Nat)).before a0 Z = true := hw _ (List.mem_of_getElem? (i := 125) rfl)
theorem d11_15 : decode prog_65_method_1_code 15 = .ok (.aload_n 0, 1) := by decide +kernel
theorem d11_16 : decode prog_65_method_1_code 16 = .ok (.new 7, 3) := by decide +kernel
theorem d11_19 : decode prog_65_method_1_code 19 = .ok (.dup, 1) := by decide +kernel
theorem d11_20 : decode prog_65_method_1_code 20 = .ok (.invokespecial 9, 3) := by decide +kernel
theorem d11_23 : decode prog_65_method_1_code 23 = .ok (.putfield 16, 3) := by decide +kernel
theorem w157 {Z : State} {a0 : Array Value} (hw : ∀ d ∈ tables_1, d.before a0 Z = true) : (Jvm.Cond.fieldLink "com/example/adjoinery/adjoinery/Trail" (16 : Nat) "com/example/adjoinery/adjoinery/Trail" "changed" "Ljava/util/List;").before a0 Z = true := hw _ (List.mem_of_getElem? (i := 157) rfl)
theorem w158 {Z : State} {a0 : Array Value} (hw : ∀ d ∈ tables_1, d.before a0 Z = true) : (Jvm.Cond.laysFinal "com/example/adjoinery/adjoinery/Trail" "com/example/adjoinery/adjoinery/Trail" "changed" "Ljava/util/List;").before a0 Z = true := hw _ (List.mem_of_getElem? (i := 158) rfl)
theorem d11_26 : decode prog_65_method_1_code 26 = .ok (.aload_n 0, 1) := by decide +kernel
theorem d11_27 : decode prog_65_method_1_code 27 = .ok (.new 19, 3) := by decide +kernel
theorem w159 {Z : State} {a0 : Array Value} (hw : ∀ d ∈ tables_1, d.before a0 Z = true) : (Jvm.Cond.classLink "com/example/adjoinery/adjoinery/Trail" (19 : Nat) "java/util/ArrayDeque").before a0 Z = true := hw _ (List.mem_of_getElem? (i := 159) rfl)
theorem w161 {Z : State} {a0 : Array Value} (hw : ∀ d ∈ tables_1, d.before a0 Z = true) : (Jvm.Cond.initialized "java/util/ArrayDeque").before a0 Z = true := hw _ (List.mem_of_getElem? (i := 161) rfl)
theorem d11_30 : decode prog_65_method_1_code 30 = .ok (.dup, 1) := by decide +kernel
theorem d11_31 : decode prog_65_method_1_code 31 = .ok (.invokespecial 21, 3) := by decide +kernel
theorem w164 {Z : State} {a0 : Array Value} (hw : ∀ d ∈ tables_1, d.before a0 Z = true) : (Jvm.Cond.code ({ cls := "java/util/ArrayDeque", name := "<init>", desc := "()V" } : Jvm.MethodName) jdk_21_method_3_code (1 : Nat) (Option.none : Option Jvm.ClassFile.FieldType)).before a0 Z = true := hw _ (List.mem_of_getElem? (i := 164) rfl)
theorem w162 {Z : State} {a0 : Array Value} (hw : ∀ d ∈ tables_1, d.before a0 Z = true) : (Jvm.Cond.methodLink "com/example/adjoinery/adjoinery/Trail" (21 : Nat) ({ cls := "java/util/ArrayDeque", name := "<init>", desc := "()V" } : Jvm.MethodName)).before a0 Z = true := hw _ (List.mem_of_getElem? (i := 162) rfl)
theorem w163 {Z : State} {a0 : Array Value} (hw : ∀ d ∈ tables_1, d.before a0 Z = true) : (Jvm.Cond.instanceMethod ({ cls := "java/util/ArrayDeque", name := "<init>", desc := "()V" } : Jvm.MethodName)).before a0 Z = true := hw _ (List.mem_of_getElem? (i := 163) rfl)
theorem d11_34 : decode prog_65_method_1_code 34 = .ok (.putfield 22, 3) := by decide +kernel
theorem w171 {Z : State} {a0 : Array Value} (hw : ∀ d ∈ tables_1, d.before a0 Z = true) : (Jvm.Cond.fieldLink "com/example/adjoinery/adjoinery/Trail" (22 : Nat) "com/example/adjoinery/adjoinery/Trail" "workStack" "Ljava/util/Deque;").before a0 Z = true := hw _ (List.mem_of_getElem? (i := 171) rfl)
theorem w172 {Z : State} {a0 : Array Value} (hw : ∀ d ∈ tables_1, d.before a0 Z = true) : (Jvm.Cond.laysFinal "com/example/adjoinery/adjoinery/Trail" "com/example/adjoinery/adjoinery/Trail" "workStack" "Ljava/util/Deque;").before a0 Z = true := hw _ (List.mem_of_getElem? (i := 172) rfl)
theorem d11_37 : decode prog_65_method_1_code 37 = .ok (.return_, 1) := by decide +kernel
theorem d12_0 : decode prog_65_method_3_code 0 = .ok (.aload_n 0, 1) := by decide +kernel
theorem d12_1 : decode prog_65_method_3_code 1 = .ok (.getfield 16, 3) := by decide +kernel
theorem d12_4 : decode prog_65_method_3_code 4 = .ok (.aload_n 1, 1) := by decide +kernel
theorem d12_5 : decode prog_65_method_3_code 5 = .ok (.invokeinterface 32 2, 5) := by decide +kernel
theorem w208 {Z : State} {a0 : Array Value} (hw : ∀ d ∈ tables_1, d.before a0 Z = true) : (Jvm.Cond.code ({ cls := "java/util/ArrayList", name := "add", desc := "(Ljava/lang/Object;)Z" } : Jvm.MethodName) jdk_38_method_25_code (2 : Nat) (Option.some Jvm.ClassFile.FieldType.boolean)).before a0 Z = true := hw _ (List.mem_of_getElem? (i := 208) rfl)
theorem pd_6 : parseMethodDescriptor "(Ljava/lang/Object;)Z" = some ⟨[(.object "java/lang/Object")], some .boolean⟩ := by decide +kernel
theorem w200 {Z : State} {a0 : Array Value} (hw : ∀ d ∈ tables_1, d.before a0 Z = true) : (Jvm.Cond.methodLink "com/example/adjoinery/adjoinery/Trail" (32 : Nat) ({ cls := "java/util/List", name := "add", desc := "(Ljava/lang/Object;)Z" } : Jvm.MethodName)).before a0 Z = true := hw _ (List.mem_of_getElem? (i := 200) rfl)
theorem w203 {Z : State} {a0 : Array Value} (hw : ∀ d ∈ tables_1, d.before a0 Z = true) : (Jvm.Cond.selects "java/util/ArrayList" ({ cls := "java/util/List", name := "add", desc := "(Ljava/lang/Object;)Z" } : Jvm.MethodName) ({ cls := "java/util/ArrayList", name := "add", desc := "(Ljava/lang/Object;)Z" } : Jvm.MethodName)).before a0 Z = true := hw _ (List.mem_of_getElem? (i := 203) rfl)
theorem w201 {Z : State} {a0 : Array Value} (hw : ∀ d ∈ tables_1, d.before a0 Z = true) : (Jvm.Cond.declares ({ cls := "java/util/List", name := "add", desc := "(Ljava/lang/Object;)Z" } : Jvm.MethodName)).before a0 Z = true := hw _ (List.mem_of_getElem? (i := 201) rfl)
theorem w202 {Z : State} {a0 : Array Value} (hw : ∀ d ∈ tables_1, d.before a0 Z = true) : (Jvm.Cond.interfaceMethod "java/util/List" "java/util/List" "add" "(Ljava/lang/Object;)Z").before a0 Z = true := hw _ (List.mem_of_getElem? (i := 202) rfl)
theorem w204 {Z : State} {a0 : Array Value} (hw : ∀ d ∈ tables_1, d.before a0 Z = true) : (Jvm.Cond.instanceMethod ({ cls := "java/util/ArrayList", name := "add", desc := "(Ljava/lang/Object;)Z" } : Jvm.MethodName)).before a0 Z = true := hw _ (List.mem_of_getElem? (i := 204) rfl)
theorem w205 {Z : State} {a0 : Array Value} (hw : ∀ d ∈ tables_1, d.before a0 Z = true) : (Jvm.Cond.publicMethod ({ cls := "java/util/ArrayList", name := "add", desc := "(Ljava/lang/Object;)Z" } : Jvm.MethodName)).before a0 Z = true := hw _ (List.mem_of_getElem? (i := 205) rfl)
theorem w206 {Z : State} {a0 : Array Value} (hw : ∀ d ∈ tables_1, d.before a0 Z = true) : (Jvm.Cond.unhidden "java/util/ArrayList" "add" "(Ljava/lang/Object;)Z").before a0 Z = true := hw _ (List.mem_of_getElem? (i := 206) rfl)
theorem w207 {Z : State} {a0 : Array Value} (hw : ∀ d ∈ tables_1, d.before a0 Z = true) : (Jvm.Cond.castable "java/util/ArrayList" "java/util/List").before a0 Z = true := hw _ (List.mem_of_getElem? (i := 207) rfl)
theorem d12_10 : decode prog_65_method_3_code 10 = .ok (.pop, 1) := by decide +kernel
theorem d12_11 : decode prog_65_method_3_code 11 = .ok (.aload_n 0, 1) := by decide +kernel
theorem d12_12 : decode prog_65_method_3_code 12 = .ok (.getfield 10, 3) := by decide +kernel
theorem d12_15 : decode prog_65_method_3_code 15 = .ok (.aload_n 2, 1) := by decide +kernel
theorem d12_16 : decode prog_65_method_3_code 16 = .ok (.invokeinterface 32 2, 5) := by decide +kernel
theorem d12_21 : decode prog_65_method_3_code 21 = .ok (.pop, 1) := by decide +kernel
theorem d12_22 : decode prog_65_method_3_code 22 = .ok (.return_, 1) := by decide +kernel
theorem pn_java_util_Objects : plainName "java/util/Objects" = true := by first | (simp [plainName, overriddenIn]; done) | decide +kernel
theorem d13_0 : decode jdk_31_method_10_code 0 = .ok (.aload_n 0, 1) := by decide +kernel
theorem d13_1 : decode jdk_31_method_10_code 1 = .ok (.ifnonnull 11, 3) := by decide +kernel
theorem d13_12 : decode jdk_31_method_10_code 12 = .ok (.aload_n 0, 1) := by decide +kernel
theorem d13_13 : decode jdk_31_method_10_code 13 = .ok (.areturn, 1) := by decide +kernel
theorem d14_0 : decode jdk_31_method_11_code 0 = .ok (.aload_n 0, 1) := by decide +kernel
theorem d14_1 : decode jdk_31_method_11_code 1 = .ok (.ifnonnull 12, 3) := by decide +kernel
theorem d14_13 : decode jdk_31_method_11_code 13 = .ok (.aload_n 0, 1) := by decide +kernel
theorem d14_14 : decode jdk_31_method_11_code 14 = .ok (.areturn, 1) := by decide +kernel
theorem d15_0 : decode jdk_42_method_66_code 0 = .ok (.aload_n 0, 1) := by decide +kernel
theorem d15_1 : decode jdk_42_method_66_code 1 = .ok (.aload_n 1, 1) := by decide +kernel
theorem d15_2 : decode jdk_42_method_66_code 2 = .ok (.if_acmp .ne 5, 3) := by decide +kernel
theorem d15_5 : decode jdk_42_method_66_code 5 = .ok (.iconst 1, 1) := by decide +kernel
theorem d15_6 : decode jdk_42_method_66_code 6 = .ok (.ireturn, 1) := by decide +kernel
theorem pn_com_example_adjoinery_adjoinery_FeatureList : plainName "com/example/adjoinery/adjoinery/FeatureList" = true := by first | (simp [plainName, overriddenIn]; done) | decide +kernel
theorem d16_0 : decode prog_20_method_1_code 0 = .ok (.aload_n 0, 1) := by decide +kernel
theorem d16_1 : decode prog_20_method_1_code 1 = .ok (.invokespecial 1, 3) := by decide +kernel
theorem w12 {Z : State} {a0 : Array Value} (hw : ∀ d ∈ tables_1, d.before a0 Z = true) : (Jvm.Cond.methodLink "com/example/adjoinery/adjoinery/FeatureList" (1 : Nat) ({ cls := "java/lang/Object", name := "<init>", desc := "()V" } : Jvm.MethodName)).before a0 Z = true := hw _ (List.mem_of_getElem? (i := 12) rfl)
theorem d16_4 : decode prog_20_method_1_code 4 = .ok (.aload_n 0, 1) := by decide +kernel
theorem d16_5 : decode prog_20_method_1_code 5 = .ok (.iload_n 1, 1) := by decide +kernel
theorem d16_6 : decode prog_20_method_1_code 6 = .ok (.anewarray 7, 3) := by decide +kernel
theorem w15 {Z : State} {a0 : Array Value} (hw : ∀ d ∈ tables_1, d.before a0 Z = true) : (Jvm.Cond.classLink "com/example/adjoinery/adjoinery/FeatureList" (7 : Nat) "java/lang/String").before a0 Z = true := hw _ (List.mem_of_getElem? (i := 15) rfl)
theorem w16 {Z : State} {a0 : Array Value} (hw : ∀ d ∈ tables_1, d.before a0 Z = true) : (Jvm.Cond.arrayOver (Jvm.ClassFile.FieldType.object "java/lang/String")).before a0 Z = true := hw _ (List.mem_of_getElem? (i := 16) rfl)
theorem d16_9 : decode prog_20_method_1_code 9 = .ok (.putfield 9, 3) := by decide +kernel
theorem w17 {Z : State} {a0 : Array Value} (hw : ∀ d ∈ tables_1, d.before a0 Z = true) : (Jvm.Cond.fieldLink "com/example/adjoinery/adjoinery/FeatureList" (9 : Nat) "com/example/adjoinery/adjoinery/FeatureList" "names" "[Ljava/lang/String;").before a0 Z = true := hw _ (List.mem_of_getElem? (i := 17) rfl)
theorem w18 {Z : State} {a0 : Array Value} (hw : ∀ d ∈ tables_1, d.before a0 Z = true) : (Jvm.Cond.lays "com/example/adjoinery/adjoinery/FeatureList" "com/example/adjoinery/adjoinery/FeatureList" "names" "[Ljava/lang/String;").before a0 Z = true := hw _ (List.mem_of_getElem? (i := 18) rfl)
theorem w7 {Z : State} {a0 : Array Value} (hw : ∀ d ∈ tables_1, d.before a0 Z = true) : (Jvm.Cond.instantiable "com/example/adjoinery/adjoinery/FeatureList" (4 : Nat)).before a0 Z = true := hw _ (List.mem_of_getElem? (i := 7) rfl)
theorem d16_12 : decode prog_20_method_1_code 12 = .ok (.aload_n 0, 1) := by decide +kernel
theorem d16_13 : decode prog_20_method_1_code 13 = .ok (.iload_n 1, 1) := by decide +kernel
theorem d16_14 : decode prog_20_method_1_code 14 = .ok (.anewarray 15, 3) := by decide +kernel
theorem w19 {Z : State} {a0 : Array Value} (hw : ∀ d ∈ tables_1, d.before a0 Z = true) : (Jvm.Cond.classLink "com/example/adjoinery/adjoinery/FeatureList" (15 : Nat) "com/example/adjoinery/adjoinery/FeatureValue").before a0 Z = true := hw _ (List.mem_of_getElem? (i := 19) rfl)
theorem w20 {Z : State} {a0 : Array Value} (hw : ∀ d ∈ tables_1, d.before a0 Z = true) : (Jvm.Cond.arrayOver (Jvm.ClassFile.FieldType.object "com/example/adjoinery/adjoinery/FeatureValue")).before a0 Z = true := hw _ (List.mem_of_getElem? (i := 20) rfl)
theorem d16_17 : decode prog_20_method_1_code 17 = .ok (.putfield 17, 3) := by decide +kernel
theorem w21 {Z : State} {a0 : Array Value} (hw : ∀ d ∈ tables_1, d.before a0 Z = true) : (Jvm.Cond.fieldLink "com/example/adjoinery/adjoinery/FeatureList" (17 : Nat) "com/example/adjoinery/adjoinery/FeatureList" "values" "[Lcom/example/adjoinery/adjoinery/FeatureValue;").before a0 Z = true := hw _ (List.mem_of_getElem? (i := 21) rfl)
theorem w22 {Z : State} {a0 : Array Value} (hw : ∀ d ∈ tables_1, d.before a0 Z = true) : (Jvm.Cond.lays "com/example/adjoinery/adjoinery/FeatureList" "com/example/adjoinery/adjoinery/FeatureList" "values" "[Lcom/example/adjoinery/adjoinery/FeatureValue;").before a0 Z = true := hw _ (List.mem_of_getElem? (i := 22) rfl)
theorem d16_20 : decode prog_20_method_1_code 20 = .ok (.return_, 1) := by decide +kernel
theorem w121 {Z : State} {a0 : Array Value} (hw : ∀ d ∈ tables_1, d.before a0 Z = true) : (Jvm.Cond.lays "com/example/adjoinery/adjoinery/FeatureList" "com/example/adjoinery/adjoinery/FeatureList" "positions" "Ljava/util/Map;").before a0 Z = true := hw _ (List.mem_of_getElem? (i := 121) rfl)
theorem w123 {Z : State} {a0 : Array Value} (hw : ∀ d ∈ tables_1, d.before a0 Z = true) : (Jvm.Cond.lays "com/example/adjoinery/adjoinery/FeatureList" "com/example/adjoinery/adjoinery/FeatureList" "size" "I").before a0 Z = true := hw _ (List.mem_of_getElem? (i := 123) rfl)
theorem pn_com_example_adjoinery_adjoinery_FeatureValue : plainName "com/example/adjoinery/adjoinery/FeatureValue" = true := by first | (simp [plainName, overriddenIn]; done) | decide +kernel
theorem d17_0 : decode prog_22_method_1_code 0 = .ok (.aload_n 0, 1) := by decide +kernel
theorem d17_1 : decode prog_22_method_1_code 1 = .ok (.invokespecial 1, 3) := by decide +kernel
theorem w26 {Z : State} {a0 : Array Value} (hw : ∀ d ∈ tables_1, d.before a0 Z = true) : (Jvm.Cond.methodLink "com/example/adjoinery/adjoinery/FeatureValue" (1 : Nat) ({ cls := "java/lang/Object", name := "<init>", desc := "()V" } : Jvm.MethodName)).before a0 Z = true := hw _ (List.mem_of_getElem? (i := 26) rfl)
theorem d17_4 : decode prog_22_method_1_code 4 = .ok (.aload_n 0, 1) := by decide +kernel
theorem d17_5 : decode prog_22_method_1_code 5 = .ok (.aload_n 1, 1) := by decide +kernel
theorem d17_6 : decode prog_22_method_1_code 6 = .ok (.putfield 7, 3) := by decide +kernel
theorem w27 {Z : State} {a0 : Array Value} (hw : ∀ d ∈ tables_1, d.before a0 Z = true) : (Jvm.Cond.fieldLink "com/example/adjoinery/adjoinery/FeatureValue" (7 : Nat) "com/example/adjoinery/adjoinery/FeatureValue" "atom" "Ljava/lang/String;").before a0 Z = true := hw _ (List.mem_of_getElem? (i := 27) rfl)
theorem w28 {Z : State} {a0 : Array Value} (hw : ∀ d ∈ tables_1, d.before a0 Z = true) : (Jvm.Cond.laysFinal "com/example/adjoinery/adjoinery/FeatureValue" "com/example/adjoinery/adjoinery/FeatureValue" "atom" "Ljava/lang/String;").before a0 Z = true := hw _ (List.mem_of_getElem? (i := 28) rfl)
theorem w5 {Z : State} {a0 : Array Value} (hw : ∀ d ∈ tables_1, d.before a0 Z = true) : (Jvm.Cond.instantiable "com/example/adjoinery/adjoinery/FeatureValue" (5 : Nat)).before a0 Z = true := hw _ (List.mem_of_getElem? (i := 5) rfl)
theorem d17_9 : decode prog_22_method_1_code 9 = .ok (.aload_n 0, 1) := by decide +kernel
theorem d17_10 : decode prog_22_method_1_code 10 = .ok (.aload_n 2, 1) := by decide +kernel
theorem d17_11 : decode prog_22_method_1_code 11 = .ok (.putfield 13, 3) := by decide +kernel
theorem w29 {Z : State} {a0 : Array Value} (hw : ∀ d ∈ tables_1, d.before a0 Z = true) : (Jvm.Cond.fieldLink "com/example/adjoinery/adjoinery/FeatureValue" (13 : Nat) "com/example/adjoinery/adjoinery/FeatureValue" "alternatives" "Ljava/util/Set;").before a0 Z = true := hw _ (List.mem_of_getElem? (i := 29) rfl)
theorem w30 {Z : State} {a0 : Array Value} (hw : ∀ d ∈ tables_1, d.before a0 Z = true) : (Jvm.Cond.laysFinal "com/example/adjoinery/adjoinery/FeatureValue" "com/example/adjoinery/adjoinery/FeatureValue" "alternatives" "Ljava/util/Set;").before a0 Z = true := hw _ (List.mem_of_getElem? (i := 30) rfl)
theorem d17_14 : decode prog_22_method_1_code 14 = .ok (.aload_n 0, 1) := by decide +kernel
theorem d17_15 : decode prog_22_method_1_code 15 = .ok (.aload_n 3, 1) := by decide +kernel
theorem d17_16 : decode prog_22_method_1_code 16 = .ok (.putfield 17, 3) := by decide +kernel
theorem w31 {Z : State} {a0 : Array Value} (hw : ∀ d ∈ tables_1, d.before a0 Z = true) : (Jvm.Cond.fieldLink "com/example/adjoinery/adjoinery/FeatureValue" (17 : Nat) "com/example/adjoinery/adjoinery/FeatureValue" "features" "Lcom/example/adjoinery/adjoinery/FeatureList;").before a0 Z = true := hw _ (List.mem_of_getElem? (i := 31) rfl)
theorem w32 {Z : State} {a0 : Array Value} (hw : ∀ d ∈ tables_1, d.before a0 Z = true) : (Jvm.Cond.laysFinal "com/example/adjoinery/adjoinery/FeatureValue" "com/example/adjoinery/adjoinery/FeatureValue" "features" "Lcom/example/adjoinery/adjoinery/FeatureList;").before a0 Z = true := hw _ (List.mem_of_getElem? (i := 32) rfl)
theorem d17_19 : decode prog_22_method_1_code 19 = .ok (.return_, 1) := by decide +kernel
theorem w91 {Z : State} {a0 : Array Value} (hw : ∀ d ∈ tables_1, d.before a0 Z = true) : (Jvm.Cond.lays "com/example/adjoinery/adjoinery/FeatureValue" "com/example/adjoinery/adjoinery/FeatureValue" "forward" "Lcom/example/adjoinery/adjoinery/FeatureValue;").before a0 Z = true := hw _ (List.mem_of_getElem? (i := 91) rfl)
theorem d18_0 : decode prog_22_method_5_code 0 = .ok (.new 8, 3) := by decide +kernel
theorem w4 {Z : State} {a0 : Array Value} (hw : ∀ d ∈ tables_1, d.before a0 Z = true) : (Jvm.Cond.classLink "com/example/adjoinery/adjoinery/FeatureValue" (8 : Nat) "com/example/adjoinery/adjoinery/FeatureValue").before a0 Z = true := hw _ (List.mem_of_getElem? (i := 4) rfl)
theorem w2 {Z : State} {a0 : Array Value} (hw : ∀ d ∈ tables_1, d.before a0 Z = true) : (Jvm.Cond.initialized "com/example/adjoinery/adjoinery/FeatureValue").before a0 Z = true := hw _ (List.mem_of_getElem? (i := 2) rfl)
theorem d18_3 : decode prog_22_method_5_code 3 = .ok (.dup, 1) := by decide +kernel
theorem d18_4 : decode prog_22_method_5_code 4 = .ok (.aconst_null, 1) := by decide +kernel
theorem d18_5 : decode prog_22_method_5_code 5 = .ok (.aconst_null, 1) := by decide +kernel
theorem d18_6 : decode prog_22_method_5_code 6 = .ok (.new 74, 3) := by decide +kernel
theorem w6 {Z : State} {a0 : Array Value} (hw : ∀ d ∈ tables_1, d.before a0 Z = true) : (Jvm.Cond.classLink "com/example/adjoinery/adjoinery/FeatureValue" (74 : Nat) "com/example/adjoinery/adjoinery/FeatureList").before a0 Z = true := hw _ (List.mem_of_getElem? (i := 6) rfl)
theorem w8 {Z : State} {a0 : Array Value} (hw : ∀ d ∈ tables_1, d.before a0 Z = true) : (Jvm.Cond.initialized "com/example/adjoinery/adjoinery/FeatureList").before a0 Z = true := hw _ (List.mem_of_getElem? (i := 8) rfl)
theorem d18_9 : decode prog_22_method_5_code 9 = .ok (.dup, 1) := by decide +kernel
theorem d18_10 : decode prog_22_method_5_code 10 = .ok (.iconst 4, 1) := by decide +kernel
theorem d18_11 : decode prog_22_method_5_code 11 = .ok (.invokespecial 76, 3) := by decide +kernel
theorem w11 {Z : State} {a0 : Array Value} (hw : ∀ d ∈ tables_1, d.before a0 Z = true) : (Jvm.Cond.code ({ cls := "com/example/adjoinery/adjoinery/FeatureList", name := "<init>", desc := "(I)V" } : Jvm.MethodName) prog_20_method_1_code (2 : Nat) (Option.none : Option Jvm.ClassFile.FieldType)).before a0 Z = true := hw _ (List.mem_of_getElem? (i := 11) rfl)
theorem pd_7 : parseMethodDescriptor "(I)V" = some ⟨[.int], none⟩ := by decide +kernel
theorem w9 {Z : State} {a0 : Array Value} (hw : ∀ d ∈ tables_1, d.before a0 Z = true) : (Jvm.Cond.methodLink "com/example/adjoinery/adjoinery/FeatureValue" (76 : Nat) ({ cls := "com/example/adjoinery/adjoinery/FeatureList", name := "<init>", desc := "(I)V" } : Jvm.MethodName)).before a0 Z = true := hw _ (List.mem_of_getElem? (i := 9) rfl)
theorem w10 {Z : State} {a0 : Array Value} (hw : ∀ d ∈ tables_1, d.before a0 Z = true) : (Jvm.Cond.instanceMethod ({ cls := "com/example/adjoinery/adjoinery/FeatureList", name := "<init>", desc := "(I)V" } : Jvm.MethodName)).before a0 Z = true := hw _ (List.mem_of_getElem? (i := 10) rfl)
theorem d18_14 : decode prog_22_method_5_code 14 = .ok (.invokespecial 21, 3) := by decide +kernel
theorem w25 {Z : State} {a0 : Array Value} (hw : ∀ d ∈ tables_1, d.before a0 Z = true) : (Jvm.Cond.code ({ cls := "com/example/adjoinery/adjoinery/FeatureValue", name := "<init>", desc := "(Ljava/lang/String;Ljava/util/Set;Lcom/example/adjoinery/adjoinery/FeatureList;)V" } : Jvm.MethodName) prog_22_method_1_code (4 : Nat) (Option.none : Option Jvm.ClassFile.FieldType)).before a0 Z = true := hw _ (List.mem_of_getElem? (i := 25) rfl)
theorem pd_8 : parseMethodDescriptor "(Ljava/lang/String;Ljava/util/Set;Lcom/example/adjoinery/adjoinery/FeatureList;)V" = some ⟨[(.object "java/lang/String"), (.object "java/util/Set"), (.object "com/example/adjoinery/adjoinery/FeatureList")], none⟩ := by decide +kernel
theorem w23 {Z : State} {a0 : Array Value} (hw : ∀ d ∈ tables_1, d.before a0 Z = true) : (Jvm.Cond.methodLink "com/example/adjoinery/adjoinery/FeatureValue" (21 : Nat) ({ cls := "com/example/adjoinery/adjoinery/FeatureValue", name := "<init>", desc := "(Ljava/lang/String;Ljava/util/Set;Lcom/example/adjoinery/adjoinery/FeatureList;)V" } : Jvm.MethodName)).before a0 Z = true := hw _ (List.mem_of_getElem? (i := 23) rfl)
theorem w24 {Z : State} {a0 : Array Value} (hw : ∀ d ∈ tables_1, d.before a0 Z = true) : (Jvm.Cond.instanceMethod ({ cls := "com/example/adjoinery/adjoinery/FeatureValue", name := "<init>", desc := "(Ljava/lang/String;Ljava/util/Set;Lcom/example/adjoinery/adjoinery/FeatureList;)V" } : Jvm.MethodName)).before a0 Z = true := hw _ (List.mem_of_getElem? (i := 24) rfl)
theorem d18_17 : decode prog_22_method_5_code 17 = .ok (.areturn, 1) := by decide +kernel
theorem d19_0 : decode prog_22_method_23_code 0 = .ok (.aload_n 0, 1) := by decide +kernel
theorem d19_1 : decode prog_22_method_23_code 1 = .ok (.astore_n 1, 1) := by decide +kernel
theorem d19_2 : decode prog_22_method_23_code 2 = .ok (.aload_n 1, 1) := by decide +kernel
theorem d19_3 : decode prog_22_method_23_code 3 = .ok (.getfield 207, 3) := by decide +kernel
theorem w90 {Z : State} {a0 : Array Value} (hw : ∀ d ∈ tables_1, d.before a0 Z = true) : (Jvm.Cond.fieldLink "com/example/adjoinery/adjoinery/FeatureValue" (207 : Nat) "com/example/adjoinery/adjoinery/FeatureValue" "forward" "Lcom/example/adjoinery/adjoinery/FeatureValue;").before a0 Z = true := hw _ (List.mem_of_getElem? (i := 90) rfl)
theorem d19_6 : decode prog_22_method_23_code 6 = .ok (.ifnull 11, 3) := by decide +kernel
theorem d19_17 : decode prog_22_method_23_code 17 = .ok (.aload_n 1, 1) := by decide +kernel
theorem d19_18 : decode prog_22_method_23_code 18 = .ok (.areturn, 1) := by decide +kernel
theorem d20_0 : decode prog_22_method_11_code 0 = .ok (.aload_n 0, 1) := by decide +kernel
theorem d20_1 : decode prog_22_method_11_code 1 = .ok (.invokevirtual 79, 3) := by decide +kernel
theorem w89 {Z : State} {a0 : Array Value} (hw : ∀ d ∈ tables_1, d.before a0 Z = true) : (Jvm.Cond.code ({ cls := "com/example/adjoinery/adjoinery/FeatureValue", name := "resolve", desc := "()Lcom/example/adjoinery/adjoinery/FeatureValue;" } : Jvm.MethodName) prog_22_method_23_code (2 : Nat) (Option.some (Jvm.ClassFile.FieldType.object "com/example/adjoinery/adjoinery/FeatureValue"))).before a0 Z = true := hw _ (List.mem_of_getElem? (i := 89) rfl)
theorem pd_9 : parseMethodDescriptor "()Lcom/example/adjoinery/adjoinery/FeatureValue;" = some ⟨[], some (.object "com/example/adjoinery/adjoinery/FeatureValue")⟩ := by decide +kernel
theorem w85 {Z : State} {a0 : Array Value} (hw : ∀ d ∈ tables_1, d.before a0 Z = true) : (Jvm.Cond.methodLink "com/example/adjoinery/adjoinery/FeatureValue" (79 : Nat) ({ cls := "com/example/adjoinery/adjoinery/FeatureValue", name := "resolve", desc := "()Lcom/example/adjoinery/adjoinery/FeatureValue;" } : Jvm.MethodName)).before a0 Z = true := hw _ (List.mem_of_getElem? (i := 85) rfl)
theorem w88 {Z : State} {a0 : Array Value} (hw : ∀ d ∈ tables_1, d.before a0 Z = true) : (Jvm.Cond.selects "com/example/adjoinery/adjoinery/FeatureValue" ({ cls := "com/example/adjoinery/adjoinery/FeatureValue", name := "resolve", desc := "()Lcom/example/adjoinery/adjoinery/FeatureValue;" } : Jvm.MethodName) ({ cls := "com/example/adjoinery/adjoinery/FeatureValue", name := "resolve", desc := "()Lcom/example/adjoinery/adjoinery/FeatureValue;" } : Jvm.MethodName)).before a0 Z = true := hw _ (List.mem_of_getElem? (i := 88) rfl)
theorem w83 {Z : State} {a0 : Array Value} (hw : ∀ d ∈ tables_1, d.before a0 Z = true) : (Jvm.Cond.selects "com/example/adjoinery/adjoinery/FeatureValue" ({ cls := "com/example/adjoinery/adjoinery/FeatureValue", name := "isStructure", desc := "()Z" } : Jvm.MethodName) ({ cls := "com/example/adjoinery/adjoinery/FeatureValue", name := "isStructure", desc := "()Z" } : Jvm.MethodName)).before a0 Z = true := hw _ (List.mem_of_getElem? (i := 83) rfl)
theorem w82 {Z : State} {a0 : Array Value} (hw : ∀ d ∈ tables_1, d.before a0 Z = true) : (Jvm.Cond.instanceMethod ({ cls := "com/example/adjoinery/adjoinery/FeatureValue", name := "isStructure", desc := "()Z" } : Jvm.MethodName)).before a0 Z = true := hw _ (List.mem_of_getElem? (i := 82) rfl)
theorem w86 {Z : State} {a0 : Array Value} (hw : ∀ d ∈ tables_1, d.before a0 Z = true) : (Jvm.Cond.declares ({ cls := "com/example/adjoinery/adjoinery/FeatureValue", name := "resolve", desc := "()Lcom/example/adjoinery/adjoinery/FeatureValue;" } : Jvm.MethodName)).before a0 Z = true := hw _ (List.mem_of_getElem? (i := 86) rfl)
theorem w87 {Z : State} {a0 : Array Value} (hw : ∀ d ∈ tables_1, d.before a0 Z = true) : (Jvm.Cond.instanceMethod ({ cls := "com/example/adjoinery/adjoinery/FeatureValue", name := "resolve", desc := "()Lcom/example/adjoinery/adjoinery/FeatureValue;" } : Jvm.MethodName)).before a0 Z = true := hw _ (List.mem_of_getElem? (i := 87) rfl)
theorem d20_4 : decode prog_22_method_11_code 4 = .ok (.getfield 17, 3) := by decide +kernel
theorem d20_7 : decode prog_22_method_11_code 7 = .ok (.ifnull 7, 3) := by decide +kernel
theorem d20_10 : decode prog_22_method_11_code 10 = .ok (.iconst 1, 1) := by decide +kernel
theorem d20_11 : decode prog_22_method_11_code 11 = .ok (.goto 4, 3) := by decide +kernel
theorem d20_15 : decode prog_22_method_11_code 15 = .ok (.ireturn, 1) := by decide +kernel
theorem d21_0 : decode prog_22_method_18_code 0 = .ok (.aload_n 0, 1) := by decide +kernel
theorem d21_1 : decode prog_22_method_18_code 1 = .ok (.getfield 7, 3) := by decide +kernel
theorem d21_4 : decode prog_22_method_18_code 4 = .ok (.ifnonnull 21, 3) := by decide +kernel
theorem d21_7 : decode prog_22_method_18_code 7 = .ok (.aload_n 0, 1) := by decide +kernel
theorem d21_8 : decode prog_22_method_18_code 8 = .ok (.getfield 13, 3) := by decide +kernel
theorem d21_11 : decode prog_22_method_18_code 11 = .ok (.ifnonnull 14, 3) := by decide +kernel
theorem d21_14 : decode prog_22_method_18_code 14 = .ok (.aload_n 0, 1) := by decide +kernel
theorem d21_15 : decode prog_22_method_18_code 15 = .ok (.getfield 17, 3) := by decide +kernel
theorem d21_18 : decode prog_22_method_18_code 18 = .ok (.ifnonnull 7, 3) := by decide +kernel
theorem d21_25 : decode prog_22_method_18_code 25 = .ok (.iconst 0, 1) := by decide +kernel
theorem d21_26 : decode prog_22_method_18_code 26 = .ok (.ireturn, 1) := by decide +kernel
theorem d22_0 : decode prog_22_method_10_code 0 = .ok (.aload_n 0, 1) := by decide +kernel
theorem d22_1 : decode prog_22_method_10_code 1 = .ok (.invokevirtual 79, 3) := by decide +kernel
theorem d22_4 : decode prog_22_method_10_code 4 = .ok (.invokevirtual 115, 3) := by decide +kernel
theorem w100 {Z : State} {a0 : Array Value} (hw : ∀ d ∈ tables_1, d.before a0 Z = true) : (Jvm.Cond.code ({ cls := "com/example/adjoinery/adjoinery/FeatureValue", name := "isVariable", desc := "()Z" } : Jvm.MethodName) prog_22_method_18_code (1 : Nat) (Option.some Jvm.ClassFile.FieldType.boolean)).before a0 Z = true := hw _ (List.mem_of_getElem? (i := 100) rfl)
theorem pd_10 : parseMethodDescriptor "()Z" = some ⟨[], some .boolean⟩ := by decide +kernel
theorem w97 {Z : State} {a0 : Array Value} (hw : ∀ d ∈ tables_1, d.before a0 Z = true) : (Jvm.Cond.methodLink "com/example/adjoinery/adjoinery/FeatureValue" (115 : Nat) ({ cls := "com/example/adjoinery/adjoinery/FeatureValue", name := "isVariable", desc := "()Z" } : Jvm.MethodName)).before a0 Z = true := hw _ (List.mem_of_getElem? (i := 97) rfl)
theorem w99 {Z : State} {a0 : Array Value} (hw : ∀ d ∈ tables_1, d.before a0 Z = true) : (Jvm.Cond.privateMethod ({ cls := "com/example/adjoinery/adjoinery/FeatureValue", name := "isVariable", desc := "()Z" } : Jvm.MethodName)).before a0 Z = true := hw _ (List.mem_of_getElem? (i := 99) rfl)
theorem w98 {Z : State} {a0 : Array Value} (hw : ∀ d ∈ tables_1, d.before a0 Z = true) : (Jvm.Cond.instanceMethod ({ cls := "com/example/adjoinery/adjoinery/FeatureValue", name := "isVariable", desc := "()Z" } : Jvm.MethodName)).before a0 Z = true := hw _ (List.mem_of_getElem? (i := 98) rfl)
theorem d22_7 : decode prog_22_method_10_code 7 = .ok (.ireturn, 1) := by decide +kernel
theorem d23_0 : decode prog_22_method_6_code 0 = .ok (.aload_n 0, 1) := by decide +kernel
theorem d23_1 : decode prog_22_method_6_code 1 = .ok (.invokevirtual 79, 3) := by decide +kernel
theorem d23_4 : decode prog_22_method_6_code 4 = .ok (.getfield 7, 3) := by decide +kernel
theorem d23_7 : decode prog_22_method_6_code 7 = .ok (.areturn, 1) := by decide +kernel
theorem d24_0 : decode prog_20_method_8_code 0 = .ok (.iconst (-1), 1) := by decide +kernel
theorem d24_1 : decode prog_20_method_8_code 1 = .ok (.istore_n 2, 1) := by decide +kernel
theorem d24_2 : decode prog_20_method_8_code 2 = .ok (.aload_n 0, 1) := by decide +kernel
theorem d24_3 : decode prog_20_method_8_code 3 = .ok (.getfield 43, 3) := by decide +kernel
theorem w120 {Z : State} {a0 : Array Value} (hw : ∀ d ∈ tables_1, d.before a0 Z = true) : (Jvm.Cond.fieldLink "com/example/adjoinery/adjoinery/FeatureList" (43 : Nat) "com/example/adjoinery/adjoinery/FeatureList" "positions" "Ljava/util/Map;").before a0 Z = true := hw _ (List.mem_of_getElem? (i := 120) rfl)
theorem d24_6 : decode prog_20_method_8_code 6 = .ok (.ifnull 33, 3) := by decide +kernel
theorem d24_39 : decode prog_20_method_8_code 39 = .ok (.iconst 0, 1) := by decide +kernel
theorem d24_40 : decode prog_20_method_8_code 40 = .ok (.istore_n 3, 1) := by decide +kernel
theorem d24_41 : decode prog_20_method_8_code 41 = .ok (.iload_n 2, 1) := by decide +kernel
theorem d24_42 : decode prog_20_method_8_code 42 = .ok (.ifCond .ge 32, 3) := by decide +kernel
theorem d24_45 : decode prog_20_method_8_code 45 = .ok (.iload_n 3, 1) := by decide +kernel
theorem d24_46 : decode prog_20_method_8_code 46 = .ok (.aload_n 0, 1) := by decide +kernel
theorem d24_47 : decode prog_20_method_8_code 47 = .ok (.getfield 21, 3) := by decide +kernel
theorem w122 {Z : State} {a0 : Array Value} (hw : ∀ d ∈ tables_1, d.before a0 Z = true) : (Jvm.Cond.fieldLink "com/example/adjoinery/adjoinery/FeatureList" (21 : Nat) "com/example/adjoinery/adjoinery/FeatureList" "size" "I").before a0 Z = true := hw _ (List.mem_of_getElem? (i := 122) rfl)
theorem d24_50 : decode prog_20_method_8_code 50 = .ok (.if_icmp .ge 24, 3) := by decide +kernel
theorem d24_74 : decode prog_20_method_8_code 74 = .ok (.iload_n 2, 1) := by decide +kernel
theorem d24_75 : decode prog_20_method_8_code 75 = .ok (.ireturn, 1) := by decide +kernel
theorem d24_53 : decode prog_20_method_8_code 53 = .ok (.aload_n 0, 1) := by decide +kernel
theorem d24_54 : decode prog_20_method_8_code 54 = .ok (.getfield 9, 3) := by decide +kernel
theorem d24_57 : decode prog_20_method_8_code 57 = .ok (.iload_n 3, 1) := by decide +kernel
theorem d24_58 : decode prog_20_method_8_code 58 = .ok (.aaload, 1) := by decide +kernel
theorem d24_59 : decode prog_20_method_8_code 59 = .ok (.aload_n 1, 1) := by decide +kernel
theorem d24_60 : decode prog_20_method_8_code 60 = .ok (.invokevirtual 73, 3) := by decide +kernel
theorem w238 {Z : State} {a0 : Array Value} (hw : ∀ d ∈ tables_1, d.before a0 Z = true) : (Jvm.Cond.code ({ cls := "java/lang/String", name := "equals", desc := "(Ljava/lang/Object;)Z" } : Jvm.MethodName) jdk_42_method_66_code (3 : Nat) (Option.some Jvm.ClassFile.FieldType.boolean)).before a0 Z = true := hw _ (List.mem_of_getElem? (i := 238) rfl)
theorem w234 {Z : State} {a0 : Array Value} (hw : ∀ d ∈ tables_1, d.before a0 Z = true) : (Jvm.Cond.methodLink "com/example/adjoinery/adjoinery/FeatureList" (73 : Nat) ({ cls := "java/lang/String", name := "equals", desc := "(Ljava/lang/Object;)Z" } : Jvm.MethodName)).before a0 Z = true := hw _ (List.mem_of_getElem? (i := 234) rfl)
theorem w237 {Z : State} {a0 : Array Value} (hw : ∀ d ∈ tables_1, d.before a0 Z = true) : (Jvm.Cond.selects "java/lang/String" ({ cls := "java/lang/String", name := "equals", desc := "(Ljava/lang/Object;)Z" } : Jvm.MethodName) ({ cls := "java/lang/String", name := "equals", desc := "(Ljava/lang/Object;)Z" } : Jvm.MethodName)).before a0 Z = true := hw _ (List.mem_of_getElem? (i := 237) rfl)
theorem w235 {Z : State} {a0 : Array Value} (hw : ∀ d ∈ tables_1, d.before a0 Z = true) : (Jvm.Cond.declares ({ cls := "java/lang/String", name := "equals", desc := "(Ljava/lang/Object;)Z" } : Jvm.MethodName)).before a0 Z = true := hw _ (List.mem_of_getElem? (i := 235) rfl)
theorem w236 {Z : State} {a0 : Array Value} (hw : ∀ d ∈ tables_1, d.before a0 Z = true) : (Jvm.Cond.instanceMethod ({ cls := "java/lang/String", name := "equals", desc := "(Ljava/lang/Object;)Z" } : Jvm.MethodName)).before a0 Z = true := hw _ (List.mem_of_getElem? (i := 236) rfl)
theorem d24_63 : decode prog_20_method_8_code 63 = .ok (.ifCond .eq 5, 3) := by decide +kernel
theorem d24_66 : decode prog_20_method_8_code 66 = .ok (.iload_n 3, 1) := by decide +kernel
theorem d24_67 : decode prog_20_method_8_code 67 = .ok (.istore_n 2, 1) := by decide +kernel
theorem d24_68 : decode prog_20_method_8_code 68 = .ok (.iinc 3 1, 3) := by decide +kernel
theorem d24_71 : decode prog_20_method_8_code 71 = .ok (.goto (-30), 3) := by decide +kernel
theorem d25_0 : decode prog_20_method_5_code 0 = .ok (.aload_n 0, 1) := by decide +kernel
theorem d25_1 : decode prog_20_method_5_code 1 = .ok (.aload_n 1, 1) := by decide +kernel
theorem d25_2 : decode prog_20_method_5_code 2 = .ok (.invokevirtual 25, 3) := by decide +kernel
theorem w119 {Z : State} {a0 : Array Value} (hw : ∀ d ∈ tables_1, d.before a0 Z = true) : (Jvm.Cond.code ({ cls := "com/example/adjoinery/adjoinery/FeatureList", name := "positionOf", desc := "(Ljava/lang/String;)I" } : Jvm.MethodName) prog_20_method_8_code (4 : Nat) (Option.some Jvm.ClassFile.FieldType.int)).before a0 Z = true := hw _ (List.mem_of_getElem? (i := 119) rfl)
theorem pd_11 : parseMethodDescriptor "(Ljava/lang/String;)I" = some ⟨[(.object "java/lang/String")], some .int⟩ := by decide +kernel
theorem w116 {Z : State} {a0 : Array Value} (hw : ∀ d ∈ tables_1, d.before a0 Z = true) : (Jvm.Cond.methodLink "com/example/adjoinery/adjoinery/FeatureList" (25 : Nat) ({ cls := "com/example/adjoinery/adjoinery/FeatureList", name := "positionOf", desc := "(Ljava/lang/String;)I" } : Jvm.MethodName)).before a0 Z = true := hw _ (List.mem_of_getElem? (i := 116) rfl)
theorem w118 {Z : State} {a0 : Array Value} (hw : ∀ d ∈ tables_1, d.before a0 Z = true) : (Jvm.Cond.privateMethod ({ cls := "com/example/adjoinery/adjoinery/FeatureList", name := "positionOf", desc := "(Ljava/lang/String;)I" } : Jvm.MethodName)).before a0 Z = true := hw _ (List.mem_of_getElem? (i := 118) rfl)
theorem w117 {Z : State} {a0 : Array Value} (hw : ∀ d ∈ tables_1, d.before a0 Z = true) : (Jvm.Cond.instanceMethod ({ cls := "com/example/adjoinery/adjoinery/FeatureList", name := "positionOf", desc := "(Ljava/lang/String;)I" } : Jvm.MethodName)).before a0 Z = true := hw _ (List.mem_of_getElem? (i := 117) rfl)
theorem w114 {Z : State} {a0 : Array Value} (hw : ∀ d ∈ tables_1, d.before a0 Z = true) : (Jvm.Cond.selects "com/example/adjoinery/adjoinery/FeatureList" ({ cls := "com/example/adjoinery/adjoinery/FeatureList", name := "get", desc := "(Ljava/lang/String;)Lcom/example/adjoinery/adjoinery/FeatureValue;" } : Jvm.MethodName) ({ cls := "com/example/adjoinery/adjoinery/FeatureList", name := "get", desc := "(Ljava/lang/String;)Lcom/example/adjoinery/adjoinery/FeatureValue;" } : Jvm.MethodName)).before a0 Z = true := hw _ (List.mem_of_getElem? (i := 114) rfl)
theorem w113 {Z : State} {a0 : Array Value} (hw : ∀ d ∈ tables_1, d.before a0 Z = true) : (Jvm.Cond.instanceMethod ({ cls := "com/example/adjoinery/adjoinery/FeatureList", name := "get", desc := "(Ljava/lang/String;)Lcom/example/adjoinery/adjoinery/FeatureValue;" } : Jvm.MethodName)).before a0 Z = true := hw _ (List.mem_of_getElem? (i := 113) rfl)
theorem d25_5 : decode prog_20_method_5_code 5 = .ok (.istore_n 2, 1) := by decide +kernel
theorem d25_6 : decode prog_20_method_5_code 6 = .ok (.iload_n 2, 1) := by decide +kernel
theorem d25_7 : decode prog_20_method_5_code 7 = .ok (.ifCond .ge 7, 3) := by decide +kernel
theorem d25_10 : decode prog_20_method_5_code 10 = .ok (.aconst_null, 1) := by decide +kernel
theorem d25_11 : decode prog_20_method_5_code 11 = .ok (.goto 9, 3) := by decide +kernel
theorem d25_20 : decode prog_20_method_5_code 20 = .ok (.areturn, 1) := by decide +kernel
theorem d25_14 : decode prog_20_method_5_code 14 = .ok (.aload_n 0, 1) := by decide +kernel
theorem d25_15 : decode prog_20_method_5_code 15 = .ok (.getfield 17, 3) := by decide +kernel
theorem d25_18 : decode prog_20_method_5_code 18 = .ok (.iload_n 2, 1) := by decide +kernel
theorem d25_19 : decode prog_20_method_5_code 19 = .ok (.aaload, 1) := by decide +kernel
theorem d26_0 : decode prog_22_method_9_code 0 = .ok (.aload_n 0, 1) := by decide +kernel
theorem d26_1 : decode prog_22_method_9_code 1 = .ok (.invokevirtual 79, 3) := by decide +kernel
theorem d26_4 : decode prog_22_method_9_code 4 = .ok (.getfield 17, 3) := by decide +kernel
theorem d26_7 : decode prog_22_method_9_code 7 = .ok (.astore_n 2, 1) := by decide +kernel
theorem d26_8 : decode prog_22_method_9_code 8 = .ok (.aload_n 2, 1) := by decide +kernel
theorem d26_9 : decode prog_22_method_9_code 9 = .ok (.ifnonnull 7, 3) := by decide +kernel
theorem d26_16 : decode prog_22_method_9_code 16 = .ok (.aload_n 2, 1) := by decide +kernel
theorem d26_17 : decode prog_22_method_9_code 17 = .ok (.aload_n 1, 1) := by decide +kernel
theorem d26_18 : decode prog_22_method_9_code 18 = .ok (.invokevirtual 112, 3) := by decide +kernel
theorem w115 {Z : State} {a0 : Array Value} (hw : ∀ d ∈ tables_1, d.before a0 Z = true) : (Jvm.Cond.code ({ cls := "com/example/adjoinery/adjoinery/FeatureList", name := "get", desc := "(Ljava/lang/String;)Lcom/example/adjoinery/adjoinery/FeatureValue;" } : Jvm.MethodName) prog_20_method_5_code (3 : Nat) (Option.some (Jvm.ClassFile.FieldType.object "com/example/adjoinery/adjoinery/FeatureValue"))).before a0 Z = true := hw _ (List.mem_of_getElem? (i := 115) rfl)
theorem pd_12 : parseMethodDescriptor "(Ljava/lang/String;)Lcom/example/adjoinery/adjoinery/FeatureValue;" = some ⟨[(.object "java/lang/String")], some (.object "com/example/adjoinery/adjoinery/FeatureValue")⟩ := by decide +kernel
theorem w111 {Z : State} {a0 : Array Value} (hw : ∀ d ∈ tables_1, d.before a0 Z = true) : (Jvm.Cond.methodLink "com/example/adjoinery/adjoinery/FeatureValue" (112 : Nat) ({ cls := "com/example/adjoinery/adjoinery/FeatureList", name := "get", desc := "(Ljava/lang/String;)Lcom/example/adjoinery/adjoinery/FeatureValue;" } : Jvm.MethodName)).before a0 Z = true := hw _ (List.mem_of_getElem? (i := 111) rfl)
theorem w112 {Z : State} {a0 : Array Value} (hw : ∀ d ∈ tables_1, d.before a0 Z = true) : (Jvm.Cond.declares ({ cls := "com/example/adjoinery/adjoinery/FeatureList", name := "get", desc := "(Ljava/lang/String;)Lcom/example/adjoinery/adjoinery/FeatureValue;" } : Jvm.MethodName)).before a0 Z = true := hw _ (List.mem_of_getElem? (i := 112) rfl)
theorem d26_21 : decode prog_22_method_9_code 21 = .ok (.astore_n 3, 1) := by decide +kernel
theorem d26_22 : decode prog_22_method_9_code 22 = .ok (.aload_n 3, 1) := by decide +kernel
theorem d26_23 : decode prog_22_method_9_code 23 = .ok (.ifnonnull 7, 3) := by decide +kernel
theorem d26_26 : decode prog_22_method_9_code 26 = .ok (.aconst_null, 1) := by decide +kernel
theorem d26_27 : decode prog_22_method_9_code 27 = .ok (.goto 7, 3) := by decide +kernel
theorem d26_34 : decode prog_22_method_9_code 34 = .ok (.areturn, 1) := by decide +kernel
theorem d26_30 : decode prog_22_method_9_code 30 = .ok (.aload_n 3, 1) := by decide +kernel
theorem d26_31 : decode prog_22_method_9_code 31 = .ok (.invokevirtual 79, 3) := by decide +kernel
theorem d27_0 : decode prog_20_method_6_code 0 = .ok (.aload_n 0, 1) := by decide +kernel
theorem d27_1 : decode prog_20_method_6_code 1 = .ok (.getfield 21, 3) := by decide +kernel
theorem d27_4 : decode prog_20_method_6_code 4 = .ok (.aload_n 0, 1) := by decide +kernel
theorem d27_5 : decode prog_20_method_6_code 5 = .ok (.getfield 9, 3) := by decide +kernel
theorem d27_8 : decode prog_20_method_6_code 8 = .ok (.arraylength, 1) := by decide +kernel
theorem d27_9 : decode prog_20_method_6_code 9 = .ok (.if_icmp .ne 44, 3) := by decide +kernel
theorem d27_53 : decode prog_20_method_6_code 53 = .ok (.aload_n 0, 1) := by decide +kernel
theorem d27_54 : decode prog_20_method_6_code 54 = .ok (.getfield 9, 3) := by decide +kernel
theorem d27_57 : decode prog_20_method_6_code 57 = .ok (.aload_n 0, 1) := by decide +kernel
theorem d27_58 : decode prog_20_method_6_code 58 = .ok (.getfield 21, 3) := by decide +kernel
theorem d27_61 : decode prog_20_method_6_code 61 = .ok (.aload_n 1, 1) := by decide +kernel
theorem d27_62 : decode prog_20_method_6_code 62 = .ok (.aastore, 1) := by decide +kernel
theorem d27_63 : decode prog_20_method_6_code 63 = .ok (.aload_n 0, 1) := by decide +kernel
theorem d27_64 : decode prog_20_method_6_code 64 = .ok (.getfield 17, 3) := by decide +kernel
theorem d27_67 : decode prog_20_method_6_code 67 = .ok (.aload_n 0, 1) := by decide +kernel
theorem d27_68 : decode prog_20_method_6_code 68 = .ok (.getfield 21, 3) := by decide +kernel
theorem d27_71 : decode prog_20_method_6_code 71 = .ok (.aload_n 2, 1) := by decide +kernel
theorem d27_72 : decode prog_20_method_6_code 72 = .ok (.aastore, 1) := by decide +kernel
theorem d27_73 : decode prog_20_method_6_code 73 = .ok (.aload_n 0, 1) := by decide +kernel
theorem d27_74 : decode prog_20_method_6_code 74 = .ok (.dup, 1) := by decide +kernel
theorem d27_75 : decode prog_20_method_6_code 75 = .ok (.getfield 21, 3) := by decide +kernel
theorem d27_78 : decode prog_20_method_6_code 78 = .ok (.iconst 1, 1) := by decide +kernel
theorem d27_79 : decode prog_20_method_6_code 79 = .ok (.iadd, 1) := by decide +kernel
theorem d27_80 : decode prog_20_method_6_code 80 = .ok (.putfield 21, 3) := by decide +kernel
theorem d27_83 : decode prog_20_method_6_code 83 = .ok (.aload_n 0, 1) := by decide +kernel
theorem d27_84 : decode prog_20_method_6_code 84 = .ok (.getfield 43, 3) := by decide +kernel
theorem d27_87 : decode prog_20_method_6_code 87 = .ok (.ifnull 26, 3) := by decide +kernel
theorem d27_113 : decode prog_20_method_6_code 113 = .ok (.aload_n 0, 1) := by decide +kernel
theorem d27_114 : decode prog_20_method_6_code 114 = .ok (.getfield 21, 3) := by decide +kernel
theorem d27_117 : decode prog_20_method_6_code 117 = .ok (.bipush 8, 2) := by decide +kernel
theorem d27_119 : decode prog_20_method_6_code 119 = .ok (.if_icmp .le 50, 3) := by decide +kernel
theorem d27_169 : decode prog_20_method_6_code 169 = .ok (.return_, 1) := by decide +kernel
theorem d28_0 : decode prog_22_method_21_code 0 = .ok (.aload_n 0, 1) := by decide +kernel
theorem d28_1 : decode prog_22_method_21_code 1 = .ok (.getfield 17, 3) := by decide +kernel
theorem d28_4 : decode prog_22_method_21_code 4 = .ok (.aload_n 1, 1) := by decide +kernel
theorem d28_5 : decode prog_22_method_21_code 5 = .ok (.invokevirtual 112, 3) := by decide +kernel
theorem d28_8 : decode prog_22_method_21_code 8 = .ok (.astore 4, 2) := by decide +kernel
theorem d28_10 : decode prog_22_method_21_code 10 = .ok (.aload 4, 2) := by decide +kernel
theorem d28_12 : decode prog_22_method_21_code 12 = .ok (.ifnonnull 31, 3) := by decide +kernel
theorem d28_15 : decode prog_22_method_21_code 15 = .ok (.aload_n 0, 1) := by decide +kernel
theorem d28_16 : decode prog_22_method_21_code 16 = .ok (.getfield 17, 3) := by decide +kernel
theorem d28_19 : decode prog_22_method_21_code 19 = .ok (.aload_n 1, 1) := by decide +kernel
theorem d28_20 : decode prog_22_method_21_code 20 = .ok (.aload_n 2, 1) := by decide +kernel
theorem d28_21 : decode prog_22_method_21_code 21 = .ok (.invokevirtual 156, 3) := by decide +kernel
theorem w186 {Z : State} {a0 : Array Value} (hw : ∀ d ∈ tables_1, d.before a0 Z = true) : (Jvm.Cond.code ({ cls := "com/example/adjoinery/adjoinery/FeatureList", name := "add", desc := "(Ljava/lang/String;Lcom/example/adjoinery/adjoinery/FeatureValue;)V" } : Jvm.MethodName) prog_20_method_6_code (4 : Nat) (Option.none : Option Jvm.ClassFile.FieldType)).before a0 Z = true := hw _ (List.mem_of_getElem? (i := 186) rfl)
theorem pd_13 : parseMethodDescriptor "(Ljava/lang/String;Lcom/example/adjoinery/adjoinery/FeatureValue;)V" = some ⟨[(.object "java/lang/String"), (.object "com/example/adjoinery/adjoinery/FeatureValue")], none⟩ := by decide +kernel
theorem w182 {Z : State} {a0 : Array Value} (hw : ∀ d ∈ tables_1, d.before a0 Z = true) : (Jvm.Cond.methodLink "com/example/adjoinery/adjoinery/FeatureValue" (156 : Nat) ({ cls := "com/example/adjoinery/adjoinery/FeatureList", name := "add", desc := "(Ljava/lang/String;Lcom/example/adjoinery/adjoinery/FeatureValue;)V" } : Jvm.MethodName)).before a0 Z = true := hw _ (List.mem_of_getElem? (i := 182) rfl)
theorem w185 {Z : State} {a0 : Array Value} (hw : ∀ d ∈ tables_1, d.before a0 Z = true) : (Jvm.Cond.selects "com/example/adjoinery/adjoinery/FeatureList" ({ cls := "com/example/adjoinery/adjoinery/FeatureList", name := "add", desc := "(Ljava/lang/String;Lcom/example/adjoinery/adjoinery/FeatureValue;)V" } : Jvm.MethodName) ({ cls := "com/example/adjoinery/adjoinery/FeatureList", name := "add", desc := "(Ljava/lang/String;Lcom/example/adjoinery/adjoinery/FeatureValue;)V" } : Jvm.MethodName)).before a0 Z = true := hw _ (List.mem_of_getElem? (i := 185) rfl)
theorem w183 {Z : State} {a0 : Array Value} (hw : ∀ d ∈ tables_1, d.before a0 Z = true) : (Jvm.Cond.declares ({ cls := "com/example/adjoinery/adjoinery/FeatureList", name := "add", desc := "(Ljava/lang/String;Lcom/example/adjoinery/adjoinery/FeatureValue;)V" } : Jvm.MethodName)).before a0 Z = true := hw _ (List.mem_of_getElem? (i := 183) rfl)
theorem w184 {Z : State} {a0 : Array Value} (hw : ∀ d ∈ tables_1, d.before a0 Z = true) : (Jvm.Cond.instanceMethod ({ cls := "com/example/adjoinery/adjoinery/FeatureList", name := "add", desc := "(Ljava/lang/String;Lcom/example/adjoinery/adjoinery/FeatureValue;)V" } : Jvm.MethodName)).before a0 Z = true := hw _ (List.mem_of_getElem? (i := 184) rfl)
theorem d28_24 : decode prog_22_method_21_code 24 = .ok (.aload_n 3, 1) := by decide +kernel
theorem d28_25 : decode prog_22_method_21_code 25 = .ok (.aload_n 0, 1) := by decide +kernel
theorem d28_26 : decode prog_22_method_21_code 26 = .ok (.aload_n 0, 1) := by decide +kernel
theorem d28_27 : decode prog_22_method_21_code 27 = .ok (.getfield 17, 3) := by decide +kernel
theorem d28_30 : decode prog_22_method_21_code 30 = .ok (.dup, 1) := by decide +kernel
theorem d28_31 : decode prog_22_method_21_code 31 = .ok (.invokestatic 197, 3) := by decide +kernel
theorem w190 {Z : State} {a0 : Array Value} (hw : ∀ d ∈ tables_1, d.before a0 Z = true) : (Jvm.Cond.code ({ cls := "java/util/Objects", name := "requireNonNull", desc := "(Ljava/lang/Object;)Ljava/lang/Object;" } : Jvm.MethodName) jdk_31_method_10_code (1 : Nat) (Option.some (Jvm.ClassFile.FieldType.object "java/lang/Object"))).before a0 Z = true := hw _ (List.mem_of_getElem? (i := 190) rfl)
theorem w78 {Z : State} {a0 : Array Value} (hw : ∀ d ∈ tables_1, d.before a0 Z = true) : (Jvm.Cond.initialized "java/util/Objects").before a0 Z = true := hw _ (List.mem_of_getElem? (i := 78) rfl)
theorem pd_14 : parseMethodDescriptor "(Ljava/lang/Object;)Ljava/lang/Object;" = some ⟨[(.object "java/lang/Object")], some (.object "java/lang/Object")⟩ := by decide +kernel
theorem w188 {Z : State} {a0 : Array Value} (hw : ∀ d ∈ tables_1, d.before a0 Z = true) : (Jvm.Cond.methodLink "com/example/adjoinery/adjoinery/FeatureValue" (197 : Nat) ({ cls := "java/util/Objects", name := "requireNonNull", desc := "(Ljava/lang/Object;)Ljava/lang/Object;" } : Jvm.MethodName)).before a0 Z = true := hw _ (List.mem_of_getElem? (i := 188) rfl)
theorem w189 {Z : State} {a0 : Array Value} (hw : ∀ d ∈ tables_1, d.before a0 Z = true) : (Jvm.Cond.static ({ cls := "java/util/Objects", name := "requireNonNull", desc := "(Ljava/lang/Object;)Ljava/lang/Object;" } : Jvm.MethodName)).before a0 Z = true := hw _ (List.mem_of_getElem? (i := 189) rfl)
theorem d28_34 : decode prog_22_method_21_code 34 = .ok (.pop, 1) := by decide +kernel
theorem d28_35 : decode prog_22_method_21_code 35 = .ok (.invokedynamic 199, 5) := by decide +kernel
theorem w191 {Z : State} {a0 : Array Value} (hw : ∀ d ∈ tables_1, d.before a0 Z = true) : (Jvm.Cond.lambdaSite ({ cls := "com/example/adjoinery/adjoinery/FeatureValue", name := "putIfAbsent", desc := "(Ljava/lang/String;Lcom/example/adjoinery/adjoinery/FeatureValue;Lcom/example/adjoinery/adjoinery/Trail;)Lcom/example/adjoinery/adjoinery/FeatureValue;" } : Jvm.MethodName) (35 : Nat) (199 : Nat) (Jvm.Lambda.Shape.mk "java/lang/Runnable" "run" (Jvm.ClassFile.MethodDescriptor.mk ([] : List Jvm.ClassFile.FieldType) (Option.none : Option Jvm.ClassFile.FieldType)) ([(Jvm.ClassFile.FieldType.object "com/example/adjoinery/adjoinery/FeatureList")] : List Jvm.ClassFile.FieldType) (5 : Nat) "com/example/adjoinery/adjoinery/FeatureList" "removeLast" (Jvm.ClassFile.MethodDescriptor.mk ([] : List Jvm.ClassFile.FieldType) (Option.none : Option Jvm.ClassFile.FieldType)) false (Jvm.ClassFile.MethodDescriptor.mk ([] : List Jvm.ClassFile.FieldType) (Option.none : Option Jvm.ClassFile.FieldType)))).before a0 Z = true := hw _ (List.mem_of_getElem? (i := 191) rfl)
theorem w194 {Z : State} {a0 : Array Value} (hw : ∀ d ∈ tables_1, d.before a0 Z = true) : (Jvm.Cond.instantiable "java/lang/Object" (0 : Nat)).before a0 Z = true := hw _ (List.mem_of_getElem? (i := 194) rfl)
theorem w233 {Z : State} {a0 : Array Value} (hw : ∀ d ∈ tables_1, d.before a0 Z = true) : (Jvm.Cond.castable "com/example/adjoinery/adjoinery/FeatureValue" "java/lang/Object").before a0 Z = true := hw _ (List.mem_of_getElem? (i := 233) rfl)
theorem d28_40 : decode prog_22_method_21_code 40 = .ok (.invokevirtual 203, 3) := by decide +kernel
theorem w199 {Z : State} {a0 : Array Value} (hw : ∀ d ∈ tables_1, d.before a0 Z = true) : (Jvm.Cond.code ({ cls := "com/example/adjoinery/adjoinery/Trail", name := "record", desc := "(Lcom/example/adjoinery/adjoinery/FeatureValue;Ljava/lang/Runnable;)V" } : Jvm.MethodName) prog_65_method_3_code (3 : Nat) (Option.none : Option Jvm.ClassFile.FieldType)).before a0 Z = true := hw _ (List.mem_of_getElem? (i := 199) rfl)
theorem w126 {Z : State} {a0 : Array Value} (hw : ∀ d ∈ tables_1, d.before a0 Z = true) : (Jvm.Cond.initialized "com/example/adjoinery/adjoinery/Trail").before a0 Z = true := hw _ (List.mem_of_getElem? (i := 126) rfl)
theorem pd_15 : parseMethodDescriptor "(Lcom/example/adjoinery/adjoinery/FeatureValue;Ljava/lang/Runnable;)V" = some ⟨[(.object "com/example/adjoinery/adjoinery/FeatureValue"), (.object "java/lang/Runnable")], none⟩ := by decide +kernel
theorem w195 {Z : State} {a0 : Array Value} (hw : ∀ d ∈ tables_1, d.before a0 Z = true) : (Jvm.Cond.methodLink "com/example/adjoinery/adjoinery/FeatureValue" (203 : Nat) ({ cls := "com/example/adjoinery/adjoinery/Trail", name := "record", desc := "(Lcom/example/adjoinery/adjoinery/FeatureValue;Ljava/lang/Runnable;)V" } : Jvm.MethodName)).before a0 Z = true := hw _ (List.mem_of_getElem? (i := 195) rfl)
theorem w198 {Z : State} {a0 : Array Value} (hw : ∀ d ∈ tables_1, d.before a0 Z = true) : (Jvm.Cond.selects "com/example/adjoinery/adjoinery/Trail" ({ cls := "com/example/adjoinery/adjoinery/Trail", name := "record", desc := "(Lcom/example/adjoinery/adjoinery/FeatureValue;Ljava/lang/Runnable;)V" } : Jvm.MethodName) ({ cls := "com/example/adjoinery/adjoinery/Trail", name := "record", desc := "(Lcom/example/adjoinery/adjoinery/FeatureValue;Ljava/lang/Runnable;)V" } : Jvm.MethodName)).before a0 Z = true := hw _ (List.mem_of_getElem? (i := 198) rfl)
theorem w196 {Z : State} {a0 : Array Value} (hw : ∀ d ∈ tables_1, d.before a0 Z = true) : (Jvm.Cond.declares ({ cls := "com/example/adjoinery/adjoinery/Trail", name := "record", desc := "(Lcom/example/adjoinery/adjoinery/FeatureValue;Ljava/lang/Runnable;)V" } : Jvm.MethodName)).before a0 Z = true := hw _ (List.mem_of_getElem? (i := 196) rfl)
theorem w197 {Z : State} {a0 : Array Value} (hw : ∀ d ∈ tables_1, d.before a0 Z = true) : (Jvm.Cond.instanceMethod ({ cls := "com/example/adjoinery/adjoinery/Trail", name := "record", desc := "(Lcom/example/adjoinery/adjoinery/FeatureValue;Ljava/lang/Runnable;)V" } : Jvm.MethodName)).before a0 Z = true := hw _ (List.mem_of_getElem? (i := 197) rfl)
theorem d28_43 : decode prog_22_method_21_code 43 = .ok (.aload 4, 2) := by decide +kernel
theorem d28_45 : decode prog_22_method_21_code 45 = .ok (.areturn, 1) := by decide +kernel
theorem d29_0 : decode prog_22_method_13_code 0 = .ok (.aload_n 0, 1) := by decide +kernel
theorem d29_1 : decode prog_22_method_13_code 1 = .ok (.invokevirtual 79, 3) := by decide +kernel
theorem d29_4 : decode prog_22_method_13_code 4 = .ok (.aload_n 1, 1) := by decide +kernel
theorem d29_5 : decode prog_22_method_13_code 5 = .ok (.aload_n 2, 1) := by decide +kernel
theorem d29_6 : decode prog_22_method_13_code 6 = .ok (.aload_n 3, 1) := by decide +kernel
theorem d29_7 : decode prog_22_method_13_code 7 = .ok (.invokevirtual 134, 3) := by decide +kernel
theorem w181 {Z : State} {a0 : Array Value} (hw : ∀ d ∈ tables_1, d.before a0 Z = true) : (Jvm.Cond.code ({ cls := "com/example/adjoinery/adjoinery/FeatureValue", name := "putIfAbsent", desc := "(Ljava/lang/String;Lcom/example/adjoinery/adjoinery/FeatureValue;Lcom/example/adjoinery/adjoinery/Trail;)Lcom/example/adjoinery/adjoinery/FeatureValue;" } : Jvm.MethodName) prog_22_method_21_code (5 : Nat) (Option.some (Jvm.ClassFile.FieldType.object "com/example/adjoinery/adjoinery/FeatureValue"))).before a0 Z = true := hw _ (List.mem_of_getElem? (i := 181) rfl)
theorem pd_16 : parseMethodDescriptor "(Ljava/lang/String;Lcom/example/adjoinery/adjoinery/FeatureValue;Lcom/example/adjoinery/adjoinery/Trail;)Lcom/example/adjoinery/adjoinery/FeatureValue;" = some ⟨[(.object "java/lang/String"), (.object "com/example/adjoinery/adjoinery/FeatureValue"), (.object "com/example/adjoinery/adjoinery/Trail")], some (.object "com/example/adjoinery/adjoinery/FeatureValue")⟩ := by decide +kernel
theorem w178 {Z : State} {a0 : Array Value} (hw : ∀ d ∈ tables_1, d.before a0 Z = true) : (Jvm.Cond.methodLink "com/example/adjoinery/adjoinery/FeatureValue" (134 : Nat) ({ cls := "com/example/adjoinery/adjoinery/FeatureValue", name := "putIfAbsent", desc := "(Ljava/lang/String;Lcom/example/adjoinery/adjoinery/FeatureValue;Lcom/example/adjoinery/adjoinery/Trail;)Lcom/example/adjoinery/adjoinery/FeatureValue;" } : Jvm.MethodName)).before a0 Z = true := hw _ (List.mem_of_getElem? (i := 178) rfl)
theorem w180 {Z : State} {a0 : Array Value} (hw : ∀ d ∈ tables_1, d.before a0 Z = true) : (Jvm.Cond.privateMethod ({ cls := "com/example/adjoinery/adjoinery/FeatureValue", name := "putIfAbsent", desc := "(Ljava/lang/String;Lcom/example/adjoinery/adjoinery/FeatureValue;Lcom/example/adjoinery/adjoinery/Trail;)Lcom/example/adjoinery/adjoinery/FeatureValue;" } : Jvm.MethodName)).before a0 Z = true := hw _ (List.mem_of_getElem? (i := 180) rfl)
theorem w179 {Z : State} {a0 : Array Value} (hw : ∀ d ∈ tables_1, d.before a0 Z = true) : (Jvm.Cond.instanceMethod ({ cls := "com/example/adjoinery/adjoinery/FeatureValue", name := "putIfAbsent", desc := "(Ljava/lang/String;Lcom/example/adjoinery/adjoinery/FeatureValue;Lcom/example/adjoinery/adjoinery/Trail;)Lcom/example/adjoinery/adjoinery/FeatureValue;" } : Jvm.MethodName)).before a0 Z = true := hw _ (List.mem_of_getElem? (i := 179) rfl)
theorem d29_10 : decode prog_22_method_13_code 10 = .ok (.astore 4, 2) := by decide +kernel
theorem d29_12 : decode prog_22_method_13_code 12 = .ok (.aload 4, 2) := by decide +kernel
theorem d29_14 : decode prog_22_method_13_code 14 = .ok (.ifnull 13, 3) := by decide +kernel
theorem d29_27 : decode prog_22_method_13_code 27 = .ok (.iconst 1, 1) := by decide +kernel
theorem d29_28 : decode prog_22_method_13_code 28 = .ok (.goto 4, 3) := by decide +kernel
theorem d29_32 : decode prog_22_method_13_code 32 = .ok (.ireturn, 1) := by decide +kernel
theorem d30_0 : decode prog_22_method_3_code 0 = .ok (.aload_n 0, 1) := by decide +kernel
theorem d30_1 : decode prog_22_method_3_code 1 = .ok (.ldc 24, 2) := by decide +kernel
theorem d30_3 : decode prog_22_method_3_code 3 = .ok (.invokestatic 25, 3) := by decide +kernel
theorem w79 {Z : State} {a0 : Array Value} (hw : ∀ d ∈ tables_1, d.before a0 Z = true) : (Jvm.Cond.code ({ cls := "java/util/Objects", name := "requireNonNull", desc := "(Ljava/lang/Object;Ljava/lang/String;)Ljava/lang/Object;" } : Jvm.MethodName) jdk_31_method_11_code (2 : Nat) (Option.some (Jvm.ClassFile.FieldType.object "java/lang/Object"))).before a0 Z = true := hw _ (List.mem_of_getElem? (i := 79) rfl)
theorem pd_17 : parseMethodDescriptor "(Ljava/lang/Object;Ljava/lang/String;)Ljava/lang/Object;" = some ⟨[(.object "java/lang/Object"), (.object "java/lang/String")], some (.object "java/lang/Object")⟩ := by decide +kernel
theorem w76 {Z : State} {a0 : Array Value} (hw : ∀ d ∈ tables_1, d.before a0 Z = true) : (Jvm.Cond.methodLink "com/example/adjoinery/adjoinery/FeatureValue" (25 : Nat) ({ cls := "java/util/Objects", name := "requireNonNull", desc := "(Ljava/lang/Object;Ljava/lang/String;)Ljava/lang/Object;" } : Jvm.MethodName)).before a0 Z = true := hw _ (List.mem_of_getElem? (i := 76) rfl)
theorem w77 {Z : State} {a0 : Array Value} (hw : ∀ d ∈ tables_1, d.before a0 Z = true) : (Jvm.Cond.static ({ cls := "java/util/Objects", name := "requireNonNull", desc := "(Ljava/lang/Object;Ljava/lang/String;)Ljava/lang/Object;" } : Jvm.MethodName)).before a0 Z = true := hw _ (List.mem_of_getElem? (i := 77) rfl)
theorem d30_6 : decode prog_22_method_3_code 6 = .ok (.pop, 1) := by decide +kernel
theorem d30_7 : decode prog_22_method_3_code 7 = .ok (.new 8, 3) := by decide +kernel
theorem d30_10 : decode prog_22_method_3_code 10 = .ok (.dup, 1) := by decide +kernel
theorem d30_11 : decode prog_22_method_3_code 11 = .ok (.aload_n 0, 1) := by decide +kernel
theorem d30_12 : decode prog_22_method_3_code 12 = .ok (.aconst_null, 1) := by decide +kernel
theorem d30_13 : decode prog_22_method_3_code 13 = .ok (.aconst_null, 1) := by decide +kernel
theorem d30_14 : decode prog_22_method_3_code 14 = .ok (.invokespecial 21, 3) := by decide +kernel
theorem d30_17 : decode prog_22_method_3_code 17 = .ok (.areturn, 1) := by decide +kernel
theorem pn_com_example_adjoinery_adjoinery_FeatureValueStructurePinLaw : plainName "com/example/adjoinery/adjoinery/FeatureValueStructurePinLaw" = true := by first | (simp [plainName, overriddenIn]; done) | decide +kernel
theorem d31_0 : decode method_2_code 0 = .ok (.iload_n 0, 1) := by decide +kernel
theorem d31_1 : decode method_2_code 1 = .ok (.iconst 3, 1) := by decide +kernel
theorem d31_2 : decode method_2_code 2 = .ok (.iand, 1) := by decide +kernel
theorem d31_3 : decode method_2_code 3 = .ok (.istore 4, 2) := by decide +kernel
theorem d31_5 : decode method_2_code 5 = .ok (.iload_n 1, 1) := by decide +kernel
theorem d31_6 : decode method_2_code 6 = .ok (.sipush 255, 3) := by decide +kernel
theorem d31_9 : decode method_2_code 9 = .ok (.iand, 1) := by decide +kernel
theorem d31_10 : decode method_2_code 10 = .ok (.i2c, 1) := by decide +kernel
theorem d31_11 : decode method_2_code 11 = .ok (.istore 5, 2) := by decide +kernel
theorem d31_13 : decode method_2_code 13 = .ok (.iload_n 2, 1) := by decide +kernel
theorem d31_14 : decode method_2_code 14 = .ok (.sipush 255, 3) := by decide +kernel
theorem d31_17 : decode method_2_code 17 = .ok (.iand, 1) := by decide +kernel
theorem d31_18 : decode method_2_code 18 = .ok (.i2c, 1) := by decide +kernel
theorem d31_19 : decode method_2_code 19 = .ok (.istore 6, 2) := by decide +kernel
theorem d31_21 : decode method_2_code 21 = .ok (.iload_n 3, 1) := by decide +kernel
theorem d31_22 : decode method_2_code 22 = .ok (.sipush 255, 3) := by decide +kernel
theorem d31_25 : decode method_2_code 25 = .ok (.iand, 1) := by decide +kernel
theorem d31_26 : decode method_2_code 26 = .ok (.i2c, 1) := by decide +kernel
theorem d31_27 : decode method_2_code 27 = .ok (.istore 7, 2) := by decide +kernel
theorem d31_29 : decode method_2_code 29 = .ok (.iload 4, 2) := by decide +kernel
theorem d31_31 : decode method_2_code 31 = .ok (.ifCond .ne 14, 3) := by decide +kernel
theorem d31_34 : decode method_2_code 34 = .ok (.new 7, 3) := by decide +kernel
theorem w37 {Z : State} {a0 : Array Value} (hw : ∀ d ∈ tables_1, d.before a0 Z = true) : (Jvm.Cond.classLink "com/example/adjoinery/adjoinery/FeatureValueStructurePinLaw" (7 : Nat) "java/lang/String").before a0 Z = true := hw _ (List.mem_of_getElem? (i := 37) rfl)
theorem d31_37 : decode method_2_code 37 = .ok (.dup, 1) := by decide +kernel
theorem d31_38 : decode method_2_code 38 = .ok (.iconst 0, 1) := by decide +kernel
theorem d31_39 : decode method_2_code 39 = .ok (.newarray .char, 2) := by decide +kernel
theorem w40 {Z : State} {a0 : Array Value} (hw : ∀ d ∈ tables_1, d.before a0 Z = true) : (Jvm.Cond.arrayClass Jvm.ClassFile.FieldType.char).before a0 Z = true := hw _ (List.mem_of_getElem? (i := 40) rfl)
theorem d31_41 : decode method_2_code 41 = .ok (.invokespecial 9, 3) := by decide +kernel
theorem w43 {Z : State} {a0 : Array Value} (hw : ∀ d ∈ tables_1, d.before a0 Z = true) : (Jvm.Cond.code ({ cls := "java/lang/String", name := "<init>", desc := "([C)V" } : Jvm.MethodName) jdk_42_method_3_code (2 : Nat) (Option.none : Option Jvm.ClassFile.FieldType)).before a0 Z = true := hw _ (List.mem_of_getElem? (i := 43) rfl)
theorem pd_18 : parseMethodDescriptor "([C)V" = some ⟨[(.array .char)], none⟩ := by decide +kernel
theorem w41 {Z : State} {a0 : Array Value} (hw : ∀ d ∈ tables_1, d.before a0 Z = true) : (Jvm.Cond.methodLink "com/example/adjoinery/adjoinery/FeatureValueStructurePinLaw" (9 : Nat) ({ cls := "java/lang/String", name := "<init>", desc := "([C)V" } : Jvm.MethodName)).before a0 Z = true := hw _ (List.mem_of_getElem? (i := 41) rfl)
theorem w42 {Z : State} {a0 : Array Value} (hw : ∀ d ∈ tables_1, d.before a0 Z = true) : (Jvm.Cond.instanceMethod ({ cls := "java/lang/String", name := "<init>", desc := "([C)V" } : Jvm.MethodName)).before a0 Z = true := hw _ (List.mem_of_getElem? (i := 42) rfl)
theorem d31_44 : decode method_2_code 44 = .ok (.areturn, 1) := by decide +kernel
theorem d31_45 : decode method_2_code 45 = .ok (.iload 4, 2) := by decide +kernel
theorem d31_47 : decode method_2_code 47 = .ok (.iconst 1, 1) := by decide +kernel
theorem d31_48 : decode method_2_code 48 = .ok (.if_icmp .ne 19, 3) := by decide +kernel
theorem d31_51 : decode method_2_code 51 = .ok (.new 7, 3) := by decide +kernel
theorem d31_54 : decode method_2_code 54 = .ok (.dup, 1) := by decide +kernel
theorem d31_55 : decode method_2_code 55 = .ok (.iconst 1, 1) := by decide +kernel
theorem d31_56 : decode method_2_code 56 = .ok (.newarray .char, 2) := by decide +kernel
theorem d31_58 : decode method_2_code 58 = .ok (.dup, 1) := by decide +kernel
theorem d31_59 : decode method_2_code 59 = .ok (.iconst 0, 1) := by decide +kernel
theorem d31_60 : decode method_2_code 60 = .ok (.iload 5, 2) := by decide +kernel
theorem d31_62 : decode method_2_code 62 = .ok (.castore, 1) := by decide +kernel
theorem d31_63 : decode method_2_code 63 = .ok (.invokespecial 9, 3) := by decide +kernel
theorem d31_66 : decode method_2_code 66 = .ok (.areturn, 1) := by decide +kernel
theorem d31_67 : decode method_2_code 67 = .ok (.iload 4, 2) := by decide +kernel
theorem d31_69 : decode method_2_code 69 = .ok (.iconst 2, 1) := by decide +kernel
theorem d31_70 : decode method_2_code 70 = .ok (.if_icmp .ne 24, 3) := by decide +kernel
theorem d31_73 : decode method_2_code 73 = .ok (.new 7, 3) := by decide +kernel
theorem d31_76 : decode method_2_code 76 = .ok (.dup, 1) := by decide +kernel
theorem d31_77 : decode method_2_code 77 = .ok (.iconst 2, 1) := by decide +kernel
theorem d31_78 : decode method_2_code 78 = .ok (.newarray .char, 2) := by decide +kernel
theorem d31_80 : decode method_2_code 80 = .ok (.dup, 1) := by decide +kernel
theorem d31_81 : decode method_2_code 81 = .ok (.iconst 0, 1) := by decide +kernel
theorem d31_82 : decode method_2_code 82 = .ok (.iload 5, 2) := by decide +kernel
theorem d31_84 : decode method_2_code 84 = .ok (.castore, 1) := by decide +kernel
theorem d31_85 : decode method_2_code 85 = .ok (.dup, 1) := by decide +kernel
theorem d31_86 : decode method_2_code 86 = .ok (.iconst 1, 1) := by decide +kernel
theorem d31_87 : decode method_2_code 87 = .ok (.iload 6, 2) := by decide +kernel
theorem d31_89 : decode method_2_code 89 = .ok (.castore, 1) := by decide +kernel
theorem d31_90 : decode method_2_code 90 = .ok (.invokespecial 9, 3) := by decide +kernel
theorem d31_93 : decode method_2_code 93 = .ok (.areturn, 1) := by decide +kernel
theorem d31_94 : decode method_2_code 94 = .ok (.new 7, 3) := by decide +kernel
theorem d31_97 : decode method_2_code 97 = .ok (.dup, 1) := by decide +kernel
theorem d31_98 : decode method_2_code 98 = .ok (.iconst 3, 1) := by decide +kernel
theorem d31_99 : decode method_2_code 99 = .ok (.newarray .char, 2) := by decide +kernel
theorem d31_101 : decode method_2_code 101 = .ok (.dup, 1) := by decide +kernel
theorem d31_102 : decode method_2_code 102 = .ok (.iconst 0, 1) := by decide +kernel
theorem d31_103 : decode method_2_code 103 = .ok (.iload 5, 2) := by decide +kernel
theorem d31_105 : decode method_2_code 105 = .ok (.castore, 1) := by decide +kernel
theorem d31_106 : decode method_2_code 106 = .ok (.dup, 1) := by decide +kernel
theorem d31_107 : decode method_2_code 107 = .ok (.iconst 1, 1) := by decide +kernel
theorem d31_108 : decode method_2_code 108 = .ok (.iload 6, 2) := by decide +kernel
theorem d31_110 : decode method_2_code 110 = .ok (.castore, 1) := by decide +kernel
theorem d31_111 : decode method_2_code 111 = .ok (.dup, 1) := by decide +kernel
theorem d31_112 : decode method_2_code 112 = .ok (.iconst 2, 1) := by decide +kernel
theorem d31_113 : decode method_2_code 113 = .ok (.iload 7, 2) := by decide +kernel
theorem d31_115 : decode method_2_code 115 = .ok (.castore, 1) := by decide +kernel
theorem d31_116 : decode method_2_code 116 = .ok (.invokespecial 9, 3) := by decide +kernel
theorem d31_119 : decode method_2_code 119 = .ok (.areturn, 1) := by decide +kernel
theorem w3 {Z : State} {a0 : Array Value} (hw : ∀ d ∈ tables_1, d.before a0 Z = true) : (Jvm.Cond.code mnS prog_22_method_5_code (0 : Nat) (Option.some (Jvm.ClassFile.FieldType.object "com/example/adjoinery/adjoinery/FeatureValue"))).before a0 Z = true := hw _ (List.mem_of_getElem? (i := 3) rfl)
theorem w0 {Z : State} {a0 : Array Value} (hw : ∀ d ∈ tables_1, d.before a0 Z = true) : (Jvm.Cond.methodLink "com/example/adjoinery/adjoinery/FeatureValueStructurePinLaw" (12 : Nat) mnS).before a0 Z = true := hw _ (List.mem_of_getElem? (i := 0) rfl)
theorem w1 {Z : State} {a0 : Array Value} (hw : ∀ d ∈ tables_1, d.before a0 Z = true) : (Jvm.Cond.static mnS).before a0 Z = true := hw _ (List.mem_of_getElem? (i := 1) rfl)
theorem w36 {Z : State} {a0 : Array Value} (hw : ∀ d ∈ tables_1, d.before a0 Z = true) : (Jvm.Cond.code ({ cls := "com/example/adjoinery/adjoinery/FeatureValueStructurePinLaw", name := "name", desc := "(IIII)Ljava/lang/String;" } : Jvm.MethodName) method_2_code (8 : Nat) (Option.some (Jvm.ClassFile.FieldType.object "java/lang/String"))).before a0 Z = true := hw _ (List.mem_of_getElem? (i := 36) rfl)
theorem w35 {Z : State} {a0 : Array Value} (hw : ∀ d ∈ tables_1, d.before a0 Z = true) : (Jvm.Cond.initialized "com/example/adjoinery/adjoinery/FeatureValueStructurePinLaw").before a0 Z = true := hw _ (List.mem_of_getElem? (i := 35) rfl)
theorem pd_19 : parseMethodDescriptor "(IIII)Ljava/lang/String;" = some ⟨[.int, .int, .int, .int], some (.object "java/lang/String")⟩ := by decide +kernel
theorem w33 {Z : State} {a0 : Array Value} (hw : ∀ d ∈ tables_1, d.before a0 Z = true) : (Jvm.Cond.methodLink "com/example/adjoinery/adjoinery/FeatureValueStructurePinLaw" (18 : Nat) ({ cls := "com/example/adjoinery/adjoinery/FeatureValueStructurePinLaw", name := "name", desc := "(IIII)Ljava/lang/String;" } : Jvm.MethodName)).before a0 Z = true := hw _ (List.mem_of_getElem? (i := 33) rfl)
theorem w34 {Z : State} {a0 : Array Value} (hw : ∀ d ∈ tables_1, d.before a0 Z = true) : (Jvm.Cond.static ({ cls := "com/example/adjoinery/adjoinery/FeatureValueStructurePinLaw", name := "name", desc := "(IIII)Ljava/lang/String;" } : Jvm.MethodName)).before a0 Z = true := hw _ (List.mem_of_getElem? (i := 34) rfl)
theorem d32_0 : decode jdk_42_method_139_code 0 = .ok (.getstatic 38, 3) := by decide +kernel
theorem w60 {Z : State} {a0 : Array Value} (hw : ∀ d ∈ tables_1, d.before a0 Z = true) : (Jvm.Cond.fieldLink "java/lang/String" (38 : Nat) "java/lang/String" "COMPACT_STRINGS" "Z").before a0 Z = true := hw _ (List.mem_of_getElem? (i := 60) rfl)
theorem d32_3 : decode jdk_42_method_139_code 3 = .ok (.ifCond .eq 23, 3) := by decide +kernel
theorem d32_6 : decode jdk_42_method_139_code 6 = .ok (.iload_n 0, 1) := by decide +kernel
theorem d32_7 : decode jdk_42_method_139_code 7 = .ok (.invokestatic 1015, 3) := by decide +kernel
theorem pn_java_lang_StringLatin1 : plainName "java/lang/StringLatin1" = true := by first | (simp [plainName, overriddenIn]; done) | decide +kernel
theorem d33_0 : decode jdk_43_method_3_code 0 = .ok (.iload_n 0, 1) := by decide +kernel
theorem d33_1 : decode jdk_43_method_3_code 1 = .ok (.sipush 255, 3) := by decide +kernel
theorem d33_4 : decode jdk_43_method_3_code 4 = .ok (.if_icmp .gt 7, 3) := by decide +kernel
theorem d33_7 : decode jdk_43_method_3_code 7 = .ok (.iconst 1, 1) := by decide +kernel
theorem d33_8 : decode jdk_43_method_3_code 8 = .ok (.goto 4, 3) := by decide +kernel
theorem d33_12 : decode jdk_43_method_3_code 12 = .ok (.ireturn, 1) := by decide +kernel
theorem w64 {Z : State} {a0 : Array Value} (hw : ∀ d ∈ tables_1, d.before a0 Z = true) : (Jvm.Cond.code ({ cls := "java/lang/StringLatin1", name := "canEncode", desc := "(C)Z" } : Jvm.MethodName) jdk_43_method_3_code (1 : Nat) (Option.some Jvm.ClassFile.FieldType.boolean)).before a0 Z = true := hw _ (List.mem_of_getElem? (i := 64) rfl)
theorem w63 {Z : State} {a0 : Array Value} (hw : ∀ d ∈ tables_1, d.before a0 Z = true) : (Jvm.Cond.initialized "java/lang/StringLatin1").before a0 Z = true := hw _ (List.mem_of_getElem? (i := 63) rfl)
theorem pd_20 : parseMethodDescriptor "(C)Z" = some ⟨[.char], some .boolean⟩ := by decide +kernel
theorem w61 {Z : State} {a0 : Array Value} (hw : ∀ d ∈ tables_1, d.before a0 Z = true) : (Jvm.Cond.methodLink "java/lang/String" (1015 : Nat) ({ cls := "java/lang/StringLatin1", name := "canEncode", desc := "(C)Z" } : Jvm.MethodName)).before a0 Z = true := hw _ (List.mem_of_getElem? (i := 61) rfl)
theorem w62 {Z : State} {a0 : Array Value} (hw : ∀ d ∈ tables_1, d.before a0 Z = true) : (Jvm.Cond.static ({ cls := "java/lang/StringLatin1", name := "canEncode", desc := "(C)Z" } : Jvm.MethodName)).before a0 Z = true := hw _ (List.mem_of_getElem? (i := 62) rfl)
theorem d32_10 : decode jdk_42_method_139_code 10 = .ok (.ifCond .eq 16, 3) := by decide +kernel
theorem d32_13 : decode jdk_42_method_139_code 13 = .ok (.new 10, 3) := by decide +kernel
theorem w65 {Z : State} {a0 : Array Value} (hw : ∀ d ∈ tables_1, d.before a0 Z = true) : (Jvm.Cond.classLink "java/lang/String" (10 : Nat) "java/lang/String").before a0 Z = true := hw _ (List.mem_of_getElem? (i := 65) rfl)
theorem d32_16 : decode jdk_42_method_139_code 16 = .ok (.dup, 1) := by decide +kernel
theorem d32_17 : decode jdk_42_method_139_code 17 = .ok (.iload_n 0, 1) := by decide +kernel
theorem d32_18 : decode jdk_42_method_139_code 18 = .ok (.invokestatic 1018, 3) := by decide +kernel
theorem d34_0 : decode jdk_43_method_46_code 0 = .ok (.iconst 1, 1) := by decide +kernel
theorem d34_1 : decode jdk_43_method_46_code 1 = .ok (.newarray .byte, 2) := by decide +kernel
theorem w50 {Z : State} {a0 : Array Value} (hw : ∀ d ∈ tables_1, d.before a0 Z = true) : (Jvm.Cond.arrayClass Jvm.ClassFile.FieldType.byte).before a0 Z = true := hw _ (List.mem_of_getElem? (i := 50) rfl)
theorem d34_3 : decode jdk_43_method_46_code 3 = .ok (.dup, 1) := by decide +kernel
theorem d34_4 : decode jdk_43_method_46_code 4 = .ok (.iconst 0, 1) := by decide +kernel
theorem d34_5 : decode jdk_43_method_46_code 5 = .ok (.iload_n 0, 1) := by decide +kernel
theorem d34_6 : decode jdk_43_method_46_code 6 = .ok (.i2b, 1) := by decide +kernel
theorem d34_7 : decode jdk_43_method_46_code 7 = .ok (.bastore, 1) := by decide +kernel
theorem d34_8 : decode jdk_43_method_46_code 8 = .ok (.areturn, 1) := by decide +kernel
theorem w68 {Z : State} {a0 : Array Value} (hw : ∀ d ∈ tables_1, d.before a0 Z = true) : (Jvm.Cond.code ({ cls := "java/lang/StringLatin1", name := "toBytes", desc := "(C)[B" } : Jvm.MethodName) jdk_43_method_46_code (1 : Nat) (Option.some (Jvm.ClassFile.FieldType.array Jvm.ClassFile.FieldType.byte))).before a0 Z = true := hw _ (List.mem_of_getElem? (i := 68) rfl)
theorem pd_21 : parseMethodDescriptor "(C)[B" = some ⟨[.char], some (.array .byte)⟩ := by decide +kernel
theorem w66 {Z : State} {a0 : Array Value} (hw : ∀ d ∈ tables_1, d.before a0 Z = true) : (Jvm.Cond.methodLink "java/lang/String" (1018 : Nat) ({ cls := "java/lang/StringLatin1", name := "toBytes", desc := "(C)[B" } : Jvm.MethodName)).before a0 Z = true := hw _ (List.mem_of_getElem? (i := 66) rfl)
theorem w67 {Z : State} {a0 : Array Value} (hw : ∀ d ∈ tables_1, d.before a0 Z = true) : (Jvm.Cond.static ({ cls := "java/lang/StringLatin1", name := "toBytes", desc := "(C)[B" } : Jvm.MethodName)).before a0 Z = true := hw _ (List.mem_of_getElem? (i := 67) rfl)
theorem d32_21 : decode jdk_42_method_139_code 21 = .ok (.iconst 0, 1) := by decide +kernel
theorem d32_22 : decode jdk_42_method_139_code 22 = .ok (.invokespecial 209, 3) := by decide +kernel
theorem d35_0 : decode jdk_42_method_151_code 0 = .ok (.aload_n 0, 1) := by decide +kernel
theorem d35_1 : decode jdk_42_method_151_code 1 = .ok (.invokespecial 1, 3) := by decide +kernel
theorem d35_4 : decode jdk_42_method_151_code 4 = .ok (.aload_n 0, 1) := by decide +kernel
theorem d35_5 : decode jdk_42_method_151_code 5 = .ok (.aload_n 1, 1) := by decide +kernel
theorem d35_6 : decode jdk_42_method_151_code 6 = .ok (.putfield 9, 3) := by decide +kernel
theorem d35_9 : decode jdk_42_method_151_code 9 = .ok (.aload_n 0, 1) := by decide +kernel
theorem d35_10 : decode jdk_42_method_151_code 10 = .ok (.iload_n 2, 1) := by decide +kernel
theorem d35_11 : decode jdk_42_method_151_code 11 = .ok (.putfield 15, 3) := by decide +kernel
theorem d35_14 : decode jdk_42_method_151_code 14 = .ok (.return_, 1) := by decide +kernel
theorem w71 {Z : State} {a0 : Array Value} (hw : ∀ d ∈ tables_1, d.before a0 Z = true) : (Jvm.Cond.code ({ cls := "java/lang/String", name := "<init>", desc := "([BB)V" } : Jvm.MethodName) jdk_42_method_151_code (3 : Nat) (Option.none : Option Jvm.ClassFile.FieldType)).before a0 Z = true := hw _ (List.mem_of_getElem? (i := 71) rfl)
theorem pd_22 : parseMethodDescriptor "([BB)V" = some ⟨[(.array .byte), .byte], none⟩ := by decide +kernel
theorem w69 {Z : State} {a0 : Array Value} (hw : ∀ d ∈ tables_1, d.before a0 Z = true) : (Jvm.Cond.methodLink "java/lang/String" (209 : Nat) ({ cls := "java/lang/String", name := "<init>", desc := "([BB)V" } : Jvm.MethodName)).before a0 Z = true := hw _ (List.mem_of_getElem? (i := 69) rfl)
theorem w70 {Z : State} {a0 : Array Value} (hw : ∀ d ∈ tables_1, d.before a0 Z = true) : (Jvm.Cond.instanceMethod ({ cls := "java/lang/String", name := "<init>", desc := "([BB)V" } : Jvm.MethodName)).before a0 Z = true := hw _ (List.mem_of_getElem? (i := 70) rfl)
theorem d32_25 : decode jdk_42_method_139_code 25 = .ok (.areturn, 1) := by decide +kernel
theorem w59 {Z : State} {a0 : Array Value} (hw : ∀ d ∈ tables_1, d.before a0 Z = true) : (Jvm.Cond.code ({ cls := "java/lang/String", name := "valueOf", desc := "(C)Ljava/lang/String;" } : Jvm.MethodName) jdk_42_method_139_code (1 : Nat) (Option.some (Jvm.ClassFile.FieldType.object "java/lang/String"))).before a0 Z = true := hw _ (List.mem_of_getElem? (i := 59) rfl)
theorem pd_23 : parseMethodDescriptor "(C)Ljava/lang/String;" = some ⟨[.char], some (.object "java/lang/String")⟩ := by decide +kernel
theorem w57 {Z : State} {a0 : Array Value} (hw : ∀ d ∈ tables_1, d.before a0 Z = true) : (Jvm.Cond.methodLink "com/example/adjoinery/adjoinery/FeatureValueStructurePinLaw" (24 : Nat) ({ cls := "java/lang/String", name := "valueOf", desc := "(C)Ljava/lang/String;" } : Jvm.MethodName)).before a0 Z = true := hw _ (List.mem_of_getElem? (i := 57) rfl)
theorem w58 {Z : State} {a0 : Array Value} (hw : ∀ d ∈ tables_1, d.before a0 Z = true) : (Jvm.Cond.static ({ cls := "java/lang/String", name := "valueOf", desc := "(C)Ljava/lang/String;" } : Jvm.MethodName)).before a0 Z = true := hw _ (List.mem_of_getElem? (i := 58) rfl)
theorem w74 {Z : State} {a0 : Array Value} (hw : ∀ d ∈ tables_1, d.before a0 Z = true) : (Jvm.Cond.code ({ cls := "com/example/adjoinery/adjoinery/FeatureValue", name := "atom", desc := "(Ljava/lang/String;)Lcom/example/adjoinery/adjoinery/FeatureValue;" } : Jvm.MethodName) prog_22_method_3_code (1 : Nat) (Option.some (Jvm.ClassFile.FieldType.object "com/example/adjoinery/adjoinery/FeatureValue"))).before a0 Z = true := hw _ (List.mem_of_getElem? (i := 74) rfl)
theorem w72 {Z : State} {a0 : Array Value} (hw : ∀ d ∈ tables_1, d.before a0 Z = true) : (Jvm.Cond.methodLink "com/example/adjoinery/adjoinery/FeatureValueStructurePinLaw" (28 : Nat) ({ cls := "com/example/adjoinery/adjoinery/FeatureValue", name := "atom", desc := "(Ljava/lang/String;)Lcom/example/adjoinery/adjoinery/FeatureValue;" } : Jvm.MethodName)).before a0 Z = true := hw _ (List.mem_of_getElem? (i := 72) rfl)
theorem w73 {Z : State} {a0 : Array Value} (hw : ∀ d ∈ tables_1, d.before a0 Z = true) : (Jvm.Cond.static ({ cls := "com/example/adjoinery/adjoinery/FeatureValue", name := "atom", desc := "(Ljava/lang/String;)Lcom/example/adjoinery/adjoinery/FeatureValue;" } : Jvm.MethodName)).before a0 Z = true := hw _ (List.mem_of_getElem? (i := 73) rfl)
theorem w84 {Z : State} {a0 : Array Value} (hw : ∀ d ∈ tables_1, d.before a0 Z = true) : (Jvm.Cond.code ({ cls := "com/example/adjoinery/adjoinery/FeatureValue", name := "isStructure", desc := "()Z" } : Jvm.MethodName) prog_22_method_11_code (1 : Nat) (Option.some Jvm.ClassFile.FieldType.boolean)).before a0 Z = true := hw _ (List.mem_of_getElem? (i := 84) rfl)
theorem w80 {Z : State} {a0 : Array Value} (hw : ∀ d ∈ tables_1, d.before a0 Z = true) : (Jvm.Cond.methodLink "com/example/adjoinery/adjoinery/FeatureValueStructurePinLaw" (32 : Nat) ({ cls := "com/example/adjoinery/adjoinery/FeatureValue", name := "isStructure", desc := "()Z" } : Jvm.MethodName)).before a0 Z = true := hw _ (List.mem_of_getElem? (i := 80) rfl)
theorem w81 {Z : State} {a0 : Array Value} (hw : ∀ d ∈ tables_1, d.before a0 Z = true) : (Jvm.Cond.declares ({ cls := "com/example/adjoinery/adjoinery/FeatureValue", name := "isStructure", desc := "()Z" } : Jvm.MethodName)).before a0 Z = true := hw _ (List.mem_of_getElem? (i := 81) rfl)
theorem w96 {Z : State} {a0 : Array Value} (hw : ∀ d ∈ tables_1, d.before a0 Z = true) : (Jvm.Cond.code ({ cls := "com/example/adjoinery/adjoinery/FeatureValue", name := "isUnbound", desc := "()Z" } : Jvm.MethodName) prog_22_method_10_code (1 : Nat) (Option.some Jvm.ClassFile.FieldType.boolean)).before a0 Z = true := hw _ (List.mem_of_getElem? (i := 96) rfl)
theorem w92 {Z : State} {a0 : Array Value} (hw : ∀ d ∈ tables_1, d.before a0 Z = true) : (Jvm.Cond.methodLink "com/example/adjoinery/adjoinery/FeatureValueStructurePinLaw" (36 : Nat) ({ cls := "com/example/adjoinery/adjoinery/FeatureValue", name := "isUnbound", desc := "()Z" } : Jvm.MethodName)).before a0 Z = true := hw _ (List.mem_of_getElem? (i := 92) rfl)
theorem w95 {Z : State} {a0 : Array Value} (hw : ∀ d ∈ tables_1, d.before a0 Z = true) : (Jvm.Cond.selects "com/example/adjoinery/adjoinery/FeatureValue" ({ cls := "com/example/adjoinery/adjoinery/FeatureValue", name := "isUnbound", desc := "()Z" } : Jvm.MethodName) ({ cls := "com/example/adjoinery/adjoinery/FeatureValue", name := "isUnbound", desc := "()Z" } : Jvm.MethodName)).before a0 Z = true := hw _ (List.mem_of_getElem? (i := 95) rfl)
theorem w93 {Z : State} {a0 : Array Value} (hw : ∀ d ∈ tables_1, d.before a0 Z = true) : (Jvm.Cond.declares ({ cls := "com/example/adjoinery/adjoinery/FeatureValue", name := "isUnbound", desc := "()Z" } : Jvm.MethodName)).before a0 Z = true := hw _ (List.mem_of_getElem? (i := 93) rfl)
theorem w94 {Z : State} {a0 : Array Value} (hw : ∀ d ∈ tables_1, d.before a0 Z = true) : (Jvm.Cond.instanceMethod ({ cls := "com/example/adjoinery/adjoinery/FeatureValue", name := "isUnbound", desc := "()Z" } : Jvm.MethodName)).before a0 Z = true := hw _ (List.mem_of_getElem? (i := 94) rfl)
theorem w105 {Z : State} {a0 : Array Value} (hw : ∀ d ∈ tables_1, d.before a0 Z = true) : (Jvm.Cond.code ({ cls := "com/example/adjoinery/adjoinery/FeatureValue", name := "atom", desc := "()Ljava/lang/String;" } : Jvm.MethodName) prog_22_method_6_code (1 : Nat) (Option.some (Jvm.ClassFile.FieldType.object "java/lang/String"))).before a0 Z = true := hw _ (List.mem_of_getElem? (i := 105) rfl)
theorem pd_24 : parseMethodDescriptor "()Ljava/lang/String;" = some ⟨[], some (.object "java/lang/String")⟩ := by decide +kernel
theorem w101 {Z : State} {a0 : Array Value} (hw : ∀ d ∈ tables_1, d.before a0 Z = true) : (Jvm.Cond.methodLink "com/example/adjoinery/adjoinery/FeatureValueStructurePinLaw" (39 : Nat) ({ cls := "com/example/adjoinery/adjoinery/FeatureValue", name := "atom", desc := "()Ljava/lang/String;" } : Jvm.MethodName)).before a0 Z = true := hw _ (List.mem_of_getElem? (i := 101) rfl)
theorem w104 {Z : State} {a0 : Array Value} (hw : ∀ d ∈ tables_1, d.before a0 Z = true) : (Jvm.Cond.selects "com/example/adjoinery/adjoinery/FeatureValue" ({ cls := "com/example/adjoinery/adjoinery/FeatureValue", name := "atom", desc := "()Ljava/lang/String;" } : Jvm.MethodName) ({ cls := "com/example/adjoinery/adjoinery/FeatureValue", name := "atom", desc := "()Ljava/lang/String;" } : Jvm.MethodName)).before a0 Z = true := hw _ (List.mem_of_getElem? (i := 104) rfl)
theorem w102 {Z : State} {a0 : Array Value} (hw : ∀ d ∈ tables_1, d.before a0 Z = true) : (Jvm.Cond.declares ({ cls := "com/example/adjoinery/adjoinery/FeatureValue", name := "atom", desc := "()Ljava/lang/String;" } : Jvm.MethodName)).before a0 Z = true := hw _ (List.mem_of_getElem? (i := 102) rfl)
theorem w103 {Z : State} {a0 : Array Value} (hw : ∀ d ∈ tables_1, d.before a0 Z = true) : (Jvm.Cond.instanceMethod ({ cls := "com/example/adjoinery/adjoinery/FeatureValue", name := "atom", desc := "()Ljava/lang/String;" } : Jvm.MethodName)).before a0 Z = true := hw _ (List.mem_of_getElem? (i := 103) rfl)
theorem w110 {Z : State} {a0 : Array Value} (hw : ∀ d ∈ tables_1, d.before a0 Z = true) : (Jvm.Cond.code ({ cls := "com/example/adjoinery/adjoinery/FeatureValue", name := "feature", desc := "(Ljava/lang/String;)Lcom/example/adjoinery/adjoinery/FeatureValue;" } : Jvm.MethodName) prog_22_method_9_code (4 : Nat) (Option.some (Jvm.ClassFile.FieldType.object "com/example/adjoinery/adjoinery/FeatureValue"))).before a0 Z = true := hw _ (List.mem_of_getElem? (i := 110) rfl)
theorem w106 {Z : State} {a0 : Array Value} (hw : ∀ d ∈ tables_1, d.before a0 Z = true) : (Jvm.Cond.methodLink "com/example/adjoinery/adjoinery/FeatureValueStructurePinLaw" (42 : Nat) ({ cls := "com/example/adjoinery/adjoinery/FeatureValue", name := "feature", desc := "(Ljava/lang/String;)Lcom/example/adjoinery/adjoinery/FeatureValue;" } : Jvm.MethodName)).before a0 Z = true := hw _ (List.mem_of_getElem? (i := 106) rfl)
theorem w109 {Z : State} {a0 : Array Value} (hw : ∀ d ∈ tables_1, d.before a0 Z = true) : (Jvm.Cond.selects "com/example/adjoinery/adjoinery/FeatureValue" ({ cls := "com/example/adjoinery/adjoinery/FeatureValue", name := "feature", desc := "(Ljava/lang/String;)Lcom/example/adjoinery/adjoinery/FeatureValue;" } : Jvm.MethodName) ({ cls := "com/example/adjoinery/adjoinery/FeatureValue", name := "feature", desc := "(Ljava/lang/String;)Lcom/example/adjoinery/adjoinery/FeatureValue;" } : Jvm.MethodName)).before a0 Z = true := hw _ (List.mem_of_getElem? (i := 109) rfl)
theorem w107 {Z : State} {a0 : Array Value} (hw : ∀ d ∈ tables_1, d.before a0 Z = true) : (Jvm.Cond.declares ({ cls := "com/example/adjoinery/adjoinery/FeatureValue", name := "feature", desc := "(Ljava/lang/String;)Lcom/example/adjoinery/adjoinery/FeatureValue;" } : Jvm.MethodName)).before a0 Z = true := hw _ (List.mem_of_getElem? (i := 107) rfl)
theorem w108 {Z : State} {a0 : Array Value} (hw : ∀ d ∈ tables_1, d.before a0 Z = true) : (Jvm.Cond.instanceMethod ({ cls := "com/example/adjoinery/adjoinery/FeatureValue", name := "feature", desc := "(Ljava/lang/String;)Lcom/example/adjoinery/adjoinery/FeatureValue;" } : Jvm.MethodName)).before a0 Z = true := hw _ (List.mem_of_getElem? (i := 108) rfl)
theorem w124 {Z : State} {a0 : Array Value} (hw : ∀ d ∈ tables_1, d.before a0 Z = true) : (Jvm.Cond.classLink "com/example/adjoinery/adjoinery/FeatureValueStructurePinLaw" (45 : Nat) "com/example/adjoinery/adjoinery/Trail").before a0 Z = true := hw _ (List.mem_of_getElem? (i := 124) rfl)
theorem w129 {Z : State} {a0 : Array Value} (hw : ∀ d ∈ tables_1, d.before a0 Z = true) : (Jvm.Cond.code ({ cls := "com/example/adjoinery/adjoinery/Trail", name := "<init>", desc := "()V" } : Jvm.MethodName) prog_65_method_1_code (1 : Nat) (Option.none : Option Jvm.ClassFile.FieldType)).before a0 Z = true := hw _ (List.mem_of_getElem? (i := 129) rfl)
theorem w127 {Z : State} {a0 : Array Value} (hw : ∀ d ∈ tables_1, d.before a0 Z = true) : (Jvm.Cond.methodLink "com/example/adjoinery/adjoinery/FeatureValueStructurePinLaw" (47 : Nat) ({ cls := "com/example/adjoinery/adjoinery/Trail", name := "<init>", desc := "()V" } : Jvm.MethodName)).before a0 Z = true := hw _ (List.mem_of_getElem? (i := 127) rfl)
theorem w128 {Z : State} {a0 : Array Value} (hw : ∀ d ∈ tables_1, d.before a0 Z = true) : (Jvm.Cond.instanceMethod ({ cls := "com/example/adjoinery/adjoinery/Trail", name := "<init>", desc := "()V" } : Jvm.MethodName)).before a0 Z = true := hw _ (List.mem_of_getElem? (i := 128) rfl)
theorem w177 {Z : State} {a0 : Array Value} (hw : ∀ d ∈ tables_1, d.before a0 Z = true) : (Jvm.Cond.code ({ cls := "com/example/adjoinery/adjoinery/FeatureValue", name := "addFeature", desc := "(Ljava/lang/String;Lcom/example/adjoinery/adjoinery/FeatureValue;Lcom/example/adjoinery/adjoinery/Trail;)Z" } : Jvm.MethodName) prog_22_method_13_code (5 : Nat) (Option.some Jvm.ClassFile.FieldType.boolean)).before a0 Z = true := hw _ (List.mem_of_getElem? (i := 177) rfl)
theorem pd_25 : parseMethodDescriptor "(Ljava/lang/String;Lcom/example/adjoinery/adjoinery/FeatureValue;Lcom/example/adjoinery/adjoinery/Trail;)Z" = some ⟨[(.object "java/lang/String"), (.object "com/example/adjoinery/adjoinery/FeatureValue"), (.object "com/example/adjoinery/adjoinery/Trail")], some .boolean⟩ := by decide +kernel
theorem w173 {Z : State} {a0 : Array Value} (hw : ∀ d ∈ tables_1, d.before a0 Z = true) : (Jvm.Cond.methodLink "com/example/adjoinery/adjoinery/FeatureValueStructurePinLaw" (48 : Nat) ({ cls := "com/example/adjoinery/adjoinery/FeatureValue", name := "addFeature", desc := "(Ljava/lang/String;Lcom/example/adjoinery/adjoinery/FeatureValue;Lcom/example/adjoinery/adjoinery/Trail;)Z" } : Jvm.MethodName)).before a0 Z = true := hw _ (List.mem_of_getElem? (i := 173) rfl)
theorem w176 {Z : State} {a0 : Array Value} (hw : ∀ d ∈ tables_1, d.before a0 Z = true) : (Jvm.Cond.selects "com/example/adjoinery/adjoinery/FeatureValue" ({ cls := "com/example/adjoinery/adjoinery/FeatureValue", name := "addFeature", desc := "(Ljava/lang/String;Lcom/example/adjoinery/adjoinery/FeatureValue;Lcom/example/adjoinery/adjoinery/Trail;)Z" } : Jvm.MethodName) ({ cls := "com/example/adjoinery/adjoinery/FeatureValue", name := "addFeature", desc := "(Ljava/lang/String;Lcom/example/adjoinery/adjoinery/FeatureValue;Lcom/example/adjoinery/adjoinery/Trail;)Z" } : Jvm.MethodName)).before a0 Z = true := hw _ (List.mem_of_getElem? (i := 176) rfl)
theorem w174 {Z : State} {a0 : Array Value} (hw : ∀ d ∈ tables_1, d.before a0 Z = true) : (Jvm.Cond.declares ({ cls := "com/example/adjoinery/adjoinery/FeatureValue", name := "addFeature", desc := "(Ljava/lang/String;Lcom/example/adjoinery/adjoinery/FeatureValue;Lcom/example/adjoinery/adjoinery/Trail;)Z" } : Jvm.MethodName)).before a0 Z = true := hw _ (List.mem_of_getElem? (i := 174) rfl)
theorem w175 {Z : State} {a0 : Array Value} (hw : ∀ d ∈ tables_1, d.before a0 Z = true) : (Jvm.Cond.instanceMethod ({ cls := "com/example/adjoinery/adjoinery/FeatureValue", name := "addFeature", desc := "(Ljava/lang/String;Lcom/example/adjoinery/adjoinery/FeatureValue;Lcom/example/adjoinery/adjoinery/Trail;)Z" } : Jvm.MethodName)).before a0 Z = true := hw _ (List.mem_of_getElem? (i := 175) rfl)
theorem and255_chars (x : Int32) : ¬ nar .char ((x &&& (255 : Int32)).toUInt32.toUInt16.toUInt32.toInt32) < 0 ∧ ¬ (255 : Int32) < nar .char ((x &&& (255 : Int32)).toUInt32.toUInt16.toUInt32.toInt32) := by
  have t : ∀ k : Fin 256, ¬ nar .char ((Int32.ofNat k.val).toUInt32.toUInt16.toUInt32.toInt32) < 0 ∧ ¬ (255 : Int32) < nar .char ((Int32.ofNat k.val).toUInt32.toUInt16.toUInt32.toInt32) := by decide +kernel
  have h : (x &&& 255).toBitVec.toNat < 256 := by
    simp only [Int32.toBitVec_and, BitVec.toNat_and]
    exact Nat.lt_succ_of_le Nat.and_le_right
  have e : (x &&& 255) = Int32.ofNat (x &&& 255).toBitVec.toNat := by
    apply Int32.toBitVec_inj.mp
    show _ = BitVec.ofNat 32 _
    rw [BitVec.ofNat_toNat]; simp
  rw [e]
  exact t ⟨_, h⟩
theorem chars_nil : ∀ c ∈ ([] : List Int32), ¬ c < 0 ∧ ¬ (255 : Int32) < c := fun _ h => nomatch h
theorem chars_cons {c : Int32} {L : List Int32} (h : ¬ c < 0 ∧ ¬ (255 : Int32) < c) (r : ∀ c ∈ L, ¬ c < 0 ∧ ¬ (255 : Int32) < c) : ∀ d ∈ c :: L, ¬ d < 0 ∧ ¬ (255 : Int32) < d := fun d q => (List.mem_cons.mp q).elim (fun u => u ▸ h) (r d)
theorem words_in (hs : ∀ d ∈ StrChars.Road.words, d ∈ tables_1) {Z : State} {a0 : Array Value} (hw : ∀ d ∈ tables_1, d.before a0 Z = true) : ∀ d ∈ StrChars.Road.words, d.before a0 Z = true := fun d hd => hw d (hs d hd)
theorem str_words : ∀ d ∈ StrChars.Road.words, d ∈ tables_1 := by decide +kernel
/-- an object (of whatever class): an Object[] takes it -/
def Obj (Z : State) (h : Heap) (a : Addr) : Prop := Ins Z h a "java/lang/Object" true
theorem Obj.ins {Z : State} {h : Heap} {a : Addr} (F : Obj Z h a) : Ins Z h a "java/lang/Object" true := F
theorem Obj.ext {Z : State} {h h' : Heap} {a : Addr} (F : Obj Z h a) (E : Ext h h') : Obj Z h' a := Ins.ext E F
theorem Obj.wr {Z : State} {h h' : Heap} {a b : Addr} {sl : Nat} {v : Value} (F : Obj Z h a) (W : Wr h h' b sl v) : Obj Z h' a := Ins.wr W F
theorem Obj.keep {Z : State} {h h' : Heap} {a : Addr} {ws : List Addr} (F : Obj Z h a) (K : Keep h h' ws) : Obj Z h' a := by
  obtain ⟨cell, cT, h1, h2, h3⟩ := F
  obtain ⟨c', q, r1, r2, -⟩ := K.2.2 a cell h1
  exact ⟨c', cT, q, h2, by rw [r1, r2]; exact h3⟩
theorem len0_of {s : State} {args : Array Value} {t : Term} {ty : FieldType} {a : Addr} {c : Cell} (hf : Fit s) (A : Arr s s.heap a c ty) (ev : t.eval args s none [] s = some (.ref a)) (hl : (Jvm.Cond.eq (.length t) (.int 0)).value args s none s [] = some true) : Arv s s.heap a c.cls ty 0 [] .null := by
  have har : ∃ v, (Term.length t).eval args s none [] s = some v := by
    cases q : (Term.length t).eval args s none [] s with
    | none => simp [Cond.value, q] at hl
    | some v => exact ⟨v, rfl⟩
  obtain ⟨v, hv⟩ := har
  have hl' : (Term.length t).eval args s none [] s = some (.int 0) := by
    obtain ⟨a2, c2, -, -, ec⟩ := Term.length_spec hv
    subst ec
    have hi : (Term.int 0).eval args s none [] s = some (.int 0) := rfl
    simp only [Cond.value, hv, hi] at hl
    rw [hv]; simpa using hl
  obtain ⟨a', cell, e1, e2, -⟩ := Term.length_spec hv
  cases (ev.symm.trans e1)
  obtain ⟨-, k, hk, comp, hkind⟩ := A.2.1
  have e2' := e2
  simp only [State.arrayAt?, A.1, hk, hkind, Option.bind_eq_bind, Option.bind_some] at e2'
  split at e2'
  · cases e2'
  cases e2'
  simp only [Term.eval, ev, e2, Option.bind_eq_bind, Option.bind_some, Option.pure_def] at hl'
  split at hl'
  · rename_i hb
    have q : c.slots.size.toInt32 = (0 : Int32) := by simpa using hl'
    have q2 := congrArg Int32.toInt q
    rw [len_toInt hb] at q2
    have q3 : (0 : Int32).toInt = 0 := rfl
    exact Arv.start hf A hb q (by decide) rfl trivial
  · cases hl'
/-- invokedynamic at a site that makes a function object of one captured reference -/
theorem lamMk {p : Program} {l : Launch} {e : Env} {R : Room} {s : State} {m : MethodId} {args : Array Value} {below : List Frame} {meth : Method} {c : Code} {T : State} {locs : List Loc} {cells slots : Nat} {Z : State} {a0 : Array Value} {h : Heap} (X : Stand p l e R s m args below meth c T locs cells slots) (hx : p.tables.exec = Jvm.exec) (hZ : Z.Warmed39 s.vm) {x : MethodName} {pc index : Nat} {σ : Jvm.Lambda.Shape}
    (hnamed : s.methodNamed? x = some m) (w : (Jvm.Cond.lambdaSite x pc index σ).before a0 Z = true) {D : String} (hcap : σ.captured = [.object D]) (wO : (Jvm.Cond.instantiable "java/lang/Object" 0).before a0 Z = true) (hlay : ((σ.file x.cls).bind (layoutFields · 0)).map (·.2.1) = some #[.object D]) (eT : T.heap = h)
    {v0 : Addr} {rest : List Value} {g : JFrame} (hg : g.method = m) (hsize : g.locals.size = c.maxLocals) (hpc : g.pc = pc) (hs : g.stack = .ref v0 :: rest) (hd : decode c.code g.pc = .ok (.invokedynamic index, 5)) (hw : 2 * g.monitorRoom + (g.stack.map fun v => v.category).sum + 3072 ≤ R.locals) (hc : cells + 1 ≤ R.cells) (hl : slots + 1 ≤ R.slots) :
    ∃ T' h', Stand p l e R s m args below meth c T' locs (cells + 1) (slots + 1) ∧ T'.heap = h' ∧ Ext h h' ∧ Obj Z h' h.size ∧
      ∀ target, Steps p.tables e below (T'.setTop { g with pc := g.pc + 5, stack := .ref h.size :: rest }) target → Steps p.tables e below (T.setTop g) target := by
  have hnZ : Z.methodNamed? x = some m := by
    have q := State.methodNamed?_setVm (s := Z) hZ.alike (x := x)
    rw [← q]; exact hnamed
  obtain ⟨cK, one, hat⟩ := Cond.lambdaSite_spec w
  obtain ⟨m', kS, cfS, i0, p0, lk, hm', hkS, hcfS, hshape, -, hfind, hmade, hcan, hlk⟩ := State.lambdaAt?_spec hat
  cases hm'.symm.trans hnZ
  obtain ⟨rfl, rfl, -⟩ : lk = .makes cK ∧ one = none ∧ σ.captured ≠ [] := by
    rcases hlk with ⟨a, cell, -, -, h, -⟩ | h
    · rw [hcap] at h; cases h
    · exact h
  obtain ⟨kS', hkS', hnameS⟩ := className_of_methodNamed hnZ
  cases hkS.symm.trans hkS'
  obtain ⟨bsm, nt, desc, site, hc0, hnt, hsite, hpar⟩ := Lambda.shapeOf?_site hshape
  obtain ⟨kK, hkK, htyK, hkindK, hhid⟩ := Lambda.made_types hmade hkS wO (by rw [hnameS]; exact hlay)
  obtain ⟨kS2, hkS2, eS⟩ := hZ.alike.2.2 _ _ hkS
  obtain ⟨kK2, hkK2, eK⟩ := hZ.alike.2.2 _ _ hkK
  have htyK2 : kK2.instanceTypes = #[.object D] := by rw [eK]; exact htyK
  have hkind2 : kK2.kind = .ordinary := by rw [eK]; exact hkindK
  have hsl : ((kK2.instanceTypes.toList.zip [(.ref v0 : Value)]).map fun (t, v) => narrow t v) = [.ref v0] := by
    rw [htyK2]; simp [narrow]
  obtain ⟨X1, st1⟩ := X.lambdaMakes hx (g := g) hg hsize hd (vals := [.ref v0]) (rest := rest) hkS2 (by rw [eS, hpc]; exact hfind) (by rw [eS]; exact hcfS) hc0 hnt (parseLong_of_parse hsite) (by rw [hpar, hcap]; rfl) hs hkK2
    (by rw [X.admits.platform]; exact hw) hc (by rw [hsl]; exact hl)
    (fun i v hv => by
      rw [hsl] at hv
      match i, hv with
      | 0, hv => simp at hv; subst hv; simp [State.fitsSlot, State.slotType?, hkK2, hkind2, htyK2, fits]
      | k + 1, hv => simp at hv)
  rw [hsl] at X1 st1
  subst eT
  obtain ⟨dk, k, ok, tk, file, cf, object, iface, t, lay, methods, target, found, i1, i2, i3, i4, i5, i6, i7, i8, i9, i10, i11, i12, i13, ⟨-, hkd, -, hsup, -⟩, -⟩ := Lambda.isMade_spec hmade
  obtain ⟨cO, kO, hfO, hkO, hkdO, hniO, -, -⟩ := Cond.instantiable_spec wO
  cases hfO.symm.trans i5
  cases hkO.symm.trans i7
  cases hkK.symm.trans i2
  have hni : ok.isInterface = false := by
    cases q : ok.isInterface
    · rfl
    · rw [q] at hniO; simp at hniO
  have hsub : Z.vm.isSubclass cK object = true := by
    obtain ⟨n, hn⟩ : ∃ n, Z.vm.classes.size = n + 1 := ⟨Z.vm.classes.size - 1, by have := (Array.getElem?_eq_some_iff.mp hkK).1; omega⟩
    simp [Vm.isSubclass, Vm.isSubclassAux, hn, hkK, hsup]
  have hass : Z.vm.assignable cK object = true := by
    show Z.vm.assignableAux (255 + 1) cK object = true
    simp [Vm.assignableAux, hkK, hkO, hkd, hkdO, hni, hsub]
  have hnew : (T.pushCell { cls := cK, slots := [(.ref v0 : Value)].toArray, vm := .none }).heap[T.heap.size]? = some { cls := cK, slots := [(.ref v0 : Value)].toArray, vm := .none } := State.heap_pushCell_size _ _
  exact ⟨_, _, X1, rfl, ext_of fun a q => Array.getElem?_push_lt q |>.trans (Array.getElem?_eq_getElem q).symm, ⟨_, object, hnew, hfO, by simp [VmData.isStatics, hass]⟩, st1⟩
theorem hEL {Z : State} {a0 : Array Value} (hw : ∀ d ∈ tables_1, d.before a0 Z = true) : EW Z a0 consts_1 := (EW.cons (w75 hw) (by decide) (EW.cons (w49 hw) (by decide) EW.nil))
theorem str_atoms {Z : State} {a0 : Array Value} (hw : ∀ d ∈ tables_1, d.before a0 Z = true) : ∀ a ∈ Bundle.stringAtoms, a.before a0 Z = true := fun d hd => hw d ((by decide +kernel : ∀ d ∈ Bundle.stringAtoms, d ∈ tables_1) d hd)
/-- a String under construction (its value is still null) isn't a booked one -/
theorem safe_null {Z : State} {EL : List (String × Nat)} {vm : Vm} {h : Heap} {x : Addr} {a0 : Array Value} {kI : Nat} (hal : Z.vm.Alike vm) (wi : (Jvm.Cond.instantiable "java/lang/String" kI).before a0 Z = true) (E : Exa Z h x "java/lang/String") (F : Fld Z h x "java/lang/String" "value" "[B" .null) : Safe Z EL vm h x := by
  rintro ⟨p, -, u, a, -, q, -, ⟨cS, ⟨⟨s1, -, -, ⟨cv, kv, iv, s4, -⟩, -, -, -, s8, -, s10, s11, -⟩, -⟩, -⟩, rfl | rfl⟩
  · obtain ⟨cell, cf, k, i, f, h1, h2, -, -, -, -, h7⟩ := F
    cases (show h[q.sa]? = some q.sC from s1).symm.trans h1
    obtain ⟨k', z4⟩ := ff_back (Z := Z) (U := Wst Z vm h) hal s4
    have z5 : Z.fieldFound? "java/lang/String" "value" "[B" = some (cv, k', iv, q.fSV) := z4
    rw [z5] at h2; cases h2
    rw [s8] at h7; cases h7
  · obtain ⟨cell, k, h1, h2, h3, -, -⟩ := E
    cases (show h[q.sd]? = some q.SA from s10).symm.trans h1
    obtain ⟨c2, k2, i1, i2, i3, -⟩ := Cond.instantiable_spec wi
    cases h2.symm.trans i1
    obtain ⟨-, k9, hk9, comp, hkind⟩ := s11
    obtain ⟨k', hk', ek⟩ := hal.2.2 _ _ i2
    cases (show vm.classes[q.SA.cls]? = some k9 from hk9).symm.trans hk'
    rw [ek] at hkind
    exact absurd (i3.symm.trans hkind) (by simp)

def Q_strE4 (Z : State) (a1 : Addr) (ac : Addr) (kc : ClassId) (h0 : Heap) (n0 : Nat) (vR : Option Value) (h : Heap) (L : List Loc) : Prop := ∃ (t : Addr) (kb : ClassId), vR = none ∧ Fr n0 L ∧ Keep h0 h [a1] ∧ (Exa Z h a1 cST) ∧ (Fld Z h a1 cST "value" "[B" (.ref t)) ∧ (Fld Z h a1 cST "coder" "B" (.int 0)) ∧ (Arv Z h t kb .byte (0 : Int32) [] (.int 0))
theorem ef_strE4 (m : MethodId) (x0 : Addr) (x1 : Addr) (x2 : Int32) (x3 : Int32) : entryFrame m #[(.ref x0), (.ref x1), (.int x2), (.int x3), .null] 6 = mkF m 0 #[.val (.ref x0), .val (.ref x1), .val (.int x2), .val (.int x3), .val .null, .unset] [] := by first | (simp [entryFrame, mkF, argsToLocals, Value.category]; done) | rfl
set_option maxRecDepth 65536 in
set_option maxHeartbeats 40000000 in
theorem rm_strE4 (l : Launch) (Z : State) (a0 : Array Value) (hw : ∀ d ∈ tables_1, d.before a0 Z = true) (ws : List Jvm.Cond) (a1 : Addr) (ac : Addr) (kc : ClassId) (h0 : Heap) (n0 : Nat) (Z0 : n0 ≤ h0.size) (H0 : Exa Z h0 a1 cST) (H1 : Fld Z h0 a1 cST "value" "[B" .null) (H2 : Fld Z h0 a1 cST "coder" "B" (.int 0)) (H3 : Arv Z h0 ac kc .char (0 : Int32) [] (.int (0 : Int32))) (g_a1 : n0 ≤ a1) (ne_a1_ac : a1 ≠ ac) :
    MetFree l (⟨"java/lang/String", "<init>", "([CIILjava/lang/Void;)V"⟩ : MethodName) (head1 (Jvm.Cond.code (⟨"java/lang/String", "<init>", "([CIILjava/lang/Void;)V"⟩ : MethodName) jdk_42_method_149_code 6 none :: ws) ({ frames := 1, cells := 4, slots := 8, locals := 12 } : Room)) (fun a U => a = #[(.ref a1), (.ref ac), (.int 0), (.int 0), .null] ∧ Z.Warmed39 U.vm ∧ U.heap = h0 ∧ CHv Z consts_1 U.vm h0) (fun _ _ _ _ _ => True) (fun _ U o U' => ∃ v L, o = .returned v ∧ Q_strE4 Z a1 ac kc h0 n0 v U'.heap L ∧ CHr Z consts_1 U.vm U.heap U'.vm U'.heap ∧ ReturnedEndW U o U' L ({ frames := 1, cells := 4, slots := 8, locals := 12 } : Room).cells ({ frames := 1, cells := 4, slots := 8, locals := 12 } : Room).slots) := by
  refine MetFree.of_bodySF (plainFor_of_name pn_java_lang_String) hisR ?_
  intro p e s m args below meth c s₁ Bd hml0 hP hK
  obtain ⟨rfl, hZs, hh, HC0⟩ := hP
  have hx := Bd.exec
  have hby := Bd.bytes
  have hml : c.maxLocals = 6 := hml0
  have hZ : Z.Warmed39 (s.setVm s.vm).vm := hZs
  have hown : (s.setVm s.vm).vm.findClass "java/lang/String" = some m.cls := findClass_of_methodNamed Bd.named
  have hnm := (name_of_methodNamed Bd.named Bd.method).1
  have X0 : Stand p l e ({ frames := 1, cells := 4, slots := 8, locals := 12 } : Room) (s.setVm s.vm) m #[(.ref a1), (.ref ac), (.int 0), (.int 0), .null] below meth c s₁ [] 0 0 := Stand.of_body Bd
  have e0 : s₁.heap = h0 := by rw [← hh, Bd.state]; rfl
  have N0 := Fr.nil n0
  have hS0 : s.Since s.vm s.heap.size := (State.WarmedH.refl s).since _
  have hk0 : s.heap.size ≤ h0.size := Nat.le_of_eq (congrArg Array.size hh)
  have C0 : CHr Z consts_1 s.vm h0 s.vm h0 := CHr.refl HC0
  refine go_st (fun t k => castTop (ef_strE4 m a1 ac (0 : Int32) (0 : Int32)) k) ?_
  show Go _ _ _ _ (s₁.setTop (mkF m 0 #[rv a1, rv ac, iv 0, iv 0, .val .null, .unset] []))
  have sfa : Safe Z consts_1 s.vm h0 a1 := safe_null hZ.alike (w38 hw) H0 H1
  refine go_st (fun t k => XS.aloadN X0.here hx rfl (hb hby d0_0) rfl rfl k) ?_
  show Go _ _ _ _ (s₁.setTop (mkF m 1 #[rv a1, rv ac, iv 0, iv 0, .val .null, .unset] [(.ref a1)]))
  obtain ⟨T1, X1, e1, st1⟩ := initO X0 hx hZ hown (w48 hw) (w13 hw) (w14 hw) e0 (g := (mkF m 1 #[rv a1, rv ac, iv 0, iv 0, .val .null, .unset] [(.ref a1)])) rfl (by rw [hml]; rfl) rfl (hb hby d0_1) (by decide) (W := 0) (by show 2 * 0 + _ ≤ _; exact Nat.le_of_eq rfl) (by decide)
  refine go_st (fun t k => st1 t k) ?_
  refine go_st (fun t k => XS.iloadN X1.here hx rfl (hb hby d0_4) rfl k) ?_
  show Go _ _ _ _ (T1.setTop (mkF m 5 #[rv a1, rv ac, iv 0, iv 0, .val .null, .unset] [(.int 0)]))
  refine go_st (fun t k => XS.ifNo X1.here hx rfl (hb hby d0_5) rfl ((if0 _ _).trans (teq ((by decide) : (0 : Int32) = (0 : Int32))).2) k) ?_
  show Go _ _ _ _ (T1.setTop (mkF m 8 #[rv a1, rv ac, iv 0, iv 0, .val .null, .unset] []))
  refine go_st (fun t k => XS.aloadN X1.here hx rfl (hb hby d0_8) rfl rfl k) ?_
  show Go _ _ _ _ (T1.setTop (mkF m 9 #[rv a1, rv ac, iv 0, iv 0, .val .null, .unset] [(.ref a1)]))
  obtain ⟨li2, T2, h2, kk2, t2, kb2, X2, e2, E2, hS2, hk2, hZ2, hown2, Es2, Cs2, Vs2, As2, lla2, llt2, hC2, -, hne2, st2⟩ := ldcCH (vm0 := s.vm) X1 hx hZ hown (w49 hw) (str_atoms hw) e1 hS0 (Nat.le_trans hk0 (Nat.le_refl _)) (hEL hw) (List.mem_of_getElem? (i := 1) rfl) C0.1 (vs := []) (z := (0 : Int32)) (by decide) (by decide) (by decide) (g := (mkF m 9 #[rv a1, rv ac, iv 0, iv 0, .val .null, .unset] [(.ref a1)])) rfl (hb hby d0_9) (n := 0) (by decide) (by decide) (by decide) (by decide)
  have C3 : CHr Z consts_1 s.vm h0 T2.vm h2 := CHr.trans C0 hC2
  have sf4 : Safe Z consts_1 T2.vm h2 a1 := (CHr.safe hC2 H0.lt sfa)
  refine go_st (fun t k => st2 t k) ?_
  show Go _ _ _ _ (T2.setTop (mkF m 11 #[rv a1, rv ac, iv 0, iv 0, .val .null, .unset] [(.ref li2), (.ref a1)]))
  obtain ⟨T5, X5, e5, st5⟩ := getF X2 hx hZ2 hown2 (host := "") (Or.inl (w55 hw)) Via.refl e2 Vs2 (g := (mkF m 11 #[rv a1, rv ac, iv 0, iv 0, .val .null, .unset] [(.ref li2), (.ref a1)])) rfl rfl (hb hby d0_11)
  refine go_st (fun t k => st5 t k) ?_
  show Go _ _ _ _ (T5.setTop (mkF m 14 #[rv a1, rv ac, iv 0, iv 0, .val .null, .unset] [(.ref t2), (.ref a1)]))
  have f6 : Fld Z h2 a1 cST "value" "[B" .null := (H1.ext E2)
  have f7 : Exa Z h2 a1 cST := (H0.ext E2)
  obtain ⟨T8, h8, X8, e8, W8, st8⟩ := putF X5 hx hZ2 hown2 (host := "") (Or.inl (w55 hw)) Via.refl e5 f6 f7 (Or.inr ⟨(w51 hw), rfl, hnm⟩) (w38 hw) (ty := (.array .byte)) (by decide) rfl rfl (g := (mkF m 14 #[rv a1, rv ac, iv 0, iv 0, .val .null, .unset] [(.ref t2), (.ref a1)])) rfl rfl (hb hby d0_14)
  have N8 := Fr.snoc X8 N0 g_a1
  have C9 : CHr Z consts_1 s.vm h0 T2.vm h8 := CHr.trans C3 (CHr.wr W8 sf4 C3.1)
  have sf10 : Safe Z consts_1 T2.vm h8 a1 := (Safe.wr W8 sf4 C3.1 sf4)
  have f11 : Fld Z h8 a1 cST "value" "[B" (.ref t2) := f6.same W8
  refine go_st (fun t k => st8 t k) ?_
  refine go_st (fun t k => XS.aloadN X8.here hx rfl (hb hby d0_17) rfl rfl k) ?_
  show Go _ _ _ _ (T8.setTop (mkF m 18 #[rv a1, rv ac, iv 0, iv 0, .val .null, .unset] [(.ref a1)]))
  obtain ⟨li12, T12, h12, kk12, t12, kb12, X12, e12, E12, hS12, hk12, hZ12, hown12, Es12, Cs12, Vs12, As12, lla12, llt12, hC12, -, hne12, st12⟩ := ldcCH (vm0 := T2.vm) X8 hx hZ2 hown2 (w49 hw) (str_atoms hw) e8 hS2 (Nat.le_trans hk2 (Nat.le_of_eq W8.size.symm)) (hEL hw) (List.mem_of_getElem? (i := 1) rfl) C9.1 (vs := []) (z := (0 : Int32)) (by decide) (by decide) (by decide) (g := (mkF m 18 #[rv a1, rv ac, iv 0, iv 0, .val .null, .unset] [(.ref a1)])) rfl (hb hby d0_18) (n := 0) (by decide) (by decide) (by decide) (by decide)
  have f13 : Exa Z h8 a1 cST := (f7.wr W8)
  have C14 : CHr Z consts_1 s.vm h0 T12.vm h12 := CHr.trans C9 hC12
  have sf15 : Safe Z consts_1 T12.vm h12 a1 := (CHr.safe hC12 f13.lt sf10)
  refine go_st (fun t k => st12 t k) ?_
  show Go _ _ _ _ (T12.setTop (mkF m 20 #[rv a1, rv ac, iv 0, iv 0, .val .null, .unset] [(.ref li12), (.ref a1)]))
  obtain ⟨T16, X16, e16, st16⟩ := getF X12 hx hZ12 hown12 (host := "") (Or.inl (w56 hw)) Via.refl e12 Cs12 (g := (mkF m 20 #[rv a1, rv ac, iv 0, iv 0, .val .null, .unset] [(.ref li12), (.ref a1)])) rfl rfl (hb hby d0_20)
  refine go_st (fun t k => st16 t k) ?_
  show Go _ _ _ _ (T16.setTop (mkF m 23 #[rv a1, rv ac, iv 0, iv 0, .val .null, .unset] [(.int 0), (.ref a1)]))
  have f17 : Fld Z h12 a1 cST "coder" "B" (.int 0) := (((H2.ext E2).other W8 (Or.inr (slot_ne (Or.inr (w52 hw)) (Or.inr (w51 hw)) (by decide) (t := .byte) (t' := (.array .byte)) (by decide) (by decide)))).ext E12)
  have f18 : Exa Z h12 a1 cST := (f13.ext E12)
  obtain ⟨T19, h19, X19, e19, W19, st19⟩ := putFN X16 hx hZ12 hown12 (w56 hw) Via.refl e16 f17 f18 (Or.inr ⟨(w52 hw), rfl, hnm⟩) (w38 hw) (ty := .byte) (v' := (.int 0)) (by decide) rfl rfl (g := (mkF m 23 #[rv a1, rv ac, iv 0, iv 0, .val .null, .unset] [(.int 0), (.ref a1)])) rfl rfl (hb hby d0_23)
  have N19 := Fr.snoc X19 N8 g_a1
  have C20 : CHr Z consts_1 s.vm h0 T12.vm h19 := CHr.trans C14 (CHr.wr W19 sf15 C14.1)
  have sf21 : Safe Z consts_1 T12.vm h19 a1 := (Safe.wr W19 sf15 C14.1 sf15)
  have f22 : Fld Z h19 a1 cST "coder" "B" (.int 0) := f17.same W19
  refine go_st (fun t k => st19 t k) ?_
  show Go _ _ _ _ (T19.setTop (mkF m 26 #[rv a1, rv ac, iv 0, iv 0, .val .null, .unset] []))
  have f23 : Exa Z h19 a1 cST := (f18.wr W19)
  have f24 : Fld Z h19 a1 cST "value" "[B" (.ref t2) := ((f11.ext E12).other W19 (Or.inr (slot_ne (Or.inr (w51 hw)) (Or.inr (w52 hw)) (by decide) (t := (.array .byte)) (t' := .byte) (by decide) (by decide))))
  have nq25 : t2 ≠ a1 := Ne.symm (Exa.neArv f7 As2 (w38 hw))
  have f26 : Arv Z h19 t2 kb2 .byte (0 : Int32) [] (.int 0) := (((As2.other W8 nq25).ext E12).other W19 nq25)
  have ke27 : Keep h0 h2 [a1] := (Keep.ext (Keep.refl h0 [a1]) E2)
  have ke28 : Keep h0 h8 [a1] := (Keep.wr ke27 W8 (Or.inl (List.mem_of_getElem? (i := 0) rfl)))
  have ke29 : Keep h0 h12 [a1] := (Keep.ext ke28 E12)
  have ke30 : Keep h0 h19 [a1] := (Keep.wr ke29 W19 (Or.inl (List.mem_of_getElem? (i := 0) rfl)))
  obtain ⟨fs, hr, hrun, hended, hR⟩ := X19.leaveW hS12 (by rw [e19]; exact (Nat.le_trans hk12 (Nat.le_of_eq W19.size.symm))) (v := none) (fun _ => rfl)
  refine ⟨_, _, ?_, hrun, hended, _, _, rfl, ?_, ?_, hR.1, hR.2.1, hR.2.2.1, hR.2.2.2.mono (by decide) (by decide)⟩
  · exact X19.returnOut hx Bd.returns (hb hby d0_26) hr
  · show Q_strE4 _ _ _ _ _ _ _ T19.heap _
    rw [e19]
    exact ⟨t2, kb2, rfl, N19, ke30, f23, f24, f22, f26⟩
  · show CHr Z consts_1 s.vm s.heap T19.vm T19.heap
    rw [hh, e19]
    exact CHr.trans C20 (CHv.at X19 hZ12 (hEL hw) C20.1)
def Q_strE1 (Z : State) (a1 : Addr) (ac : Addr) (kc : ClassId) (h0 : Heap) (n0 : Nat) (vR : Option Value) (h : Heap) (L : List Loc) : Prop := ∃ (t : Addr) (kb : ClassId), vR = none ∧ Fr n0 L ∧ Keep h0 h [a1] ∧ (Exa Z h a1 cST) ∧ (Fld Z h a1 cST "value" "[B" (.ref t)) ∧ (Fld Z h a1 cST "coder" "B" (.int 0)) ∧ (Arv Z h t kb .byte (0 : Int32) [] (.int 0))
theorem ef_strE1 (m : MethodId) (x0 : Addr) (x1 : Addr) : entryFrame m #[(.ref x0), (.ref x1)] 2 = mkF m 0 #[.val (.ref x0), .val (.ref x1)] [] := by first | (simp [entryFrame, mkF, argsToLocals, Value.category]; done) | rfl
set_option maxRecDepth 65536 in
set_option maxHeartbeats 40000000 in
theorem rm_strE1 (l : Launch) (Z : State) (a0 : Array Value) (hw : ∀ d ∈ tables_1, d.before a0 Z = true) (ws : List Jvm.Cond) (a1 : Addr) (ac : Addr) (kc : ClassId) (h0 : Heap) (n0 : Nat) (Z0 : n0 ≤ h0.size) (H0 : Exa Z h0 a1 cST) (H1 : Fld Z h0 a1 cST "value" "[B" .null) (H2 : Fld Z h0 a1 cST "coder" "B" (.int 0)) (H3 : Arv Z h0 ac kc .char (0 : Int32) [] (.int (0 : Int32))) (g_a1 : n0 ≤ a1) (ne_a1_ac : a1 ≠ ac) :
    MetFree l (⟨"java/lang/String", "<init>", "([C)V"⟩ : MethodName) (head1 (Jvm.Cond.code (⟨"java/lang/String", "<init>", "([C)V"⟩ : MethodName) jdk_42_method_3_code 2 none :: ws) ({ frames := 2, cells := 4, slots := 8, locals := 29 } : Room)) (fun a U => a = #[(.ref a1), (.ref ac)] ∧ Z.Warmed39 U.vm ∧ U.heap = h0 ∧ CHv Z consts_1 U.vm h0) (fun _ _ _ _ _ => True) (fun _ U o U' => ∃ v L, o = .returned v ∧ Q_strE1 Z a1 ac kc h0 n0 v U'.heap L ∧ CHr Z consts_1 U.vm U.heap U'.vm U'.heap ∧ ReturnedEndW U o U' L ({ frames := 2, cells := 4, slots := 8, locals := 29 } : Room).cells ({ frames := 2, cells := 4, slots := 8, locals := 29 } : Room).slots) := by
  refine MetFree.of_bodySF (plainFor_of_name pn_java_lang_String) hisR ?_
  intro p e s m args below meth c s₁ Bd hml0 hP hK
  obtain ⟨rfl, hZs, hh, HC0⟩ := hP
  have hx := Bd.exec
  have hby := Bd.bytes
  have hml : c.maxLocals = 2 := hml0
  have hZ : Z.Warmed39 (s.setVm s.vm).vm := hZs
  have hown : (s.setVm s.vm).vm.findClass "java/lang/String" = some m.cls := findClass_of_methodNamed Bd.named
  have hnm := (name_of_methodNamed Bd.named Bd.method).1
  have X0 : Stand p l e ({ frames := 2, cells := 4, slots := 8, locals := 29 } : Room) (s.setVm s.vm) m #[(.ref a1), (.ref ac)] below meth c s₁ [] 0 0 := Stand.of_body Bd
  have e0 : s₁.heap = h0 := by rw [← hh, Bd.state]; rfl
  have N0 := Fr.nil n0
  have hS0 : s.Since s.vm s.heap.size := (State.WarmedH.refl s).since _
  have hk0 : s.heap.size ≤ h0.size := Nat.le_of_eq (congrArg Array.size hh)
  have C0 : CHr Z consts_1 s.vm h0 s.vm h0 := CHr.refl HC0
  refine go_st (fun t k => castTop (ef_strE1 m a1 ac) k) ?_
  show Go _ _ _ _ (s₁.setTop (mkF m 0 #[rv a1, rv ac] []))
  refine go_st (fun t k => XS.aloadN X0.here hx rfl (hb hby d1_0) rfl rfl k) ?_
  refine go_st (fun t k => XS.aloadN X0.here hx rfl (hb hby d1_1) rfl rfl k) ?_
  refine go_st (fun t k => XS.iconst X0.here hx rfl (hb hby d1_2) k) ?_
  refine go_st (fun t k => XS.aloadN X0.here hx rfl (hb hby d1_3) rfl rfl k) ?_
  show Go _ _ _ _ (s₁.setTop (mkF m 4 #[rv a1, rv ac] [(.ref ac), (.int 0), (.ref ac), (.ref a1)]))
  obtain ⟨zc1, zA1, zq1, zS1, zN1, zH1, zG1⟩ := id H3
  refine go_st (fun t k => X0.arraylength hx (by rw [e0]; exact zA1.1) (State.isArrayOf_alike hZ.alike zA1.2.1) (g := (mkF m 4 #[rv a1, rv ac] [(.ref ac), (.int 0), (.ref ac), (.ref a1)])) rfl rfl (hb hby d1_4) t k) ?_
  rw [len_of zS1 zN1]
  refine go_st (fun t k => XS.aconstNull X0.here hx rfl (hb hby d1_5) k) ?_
  show Go _ _ _ _ (s₁.setTop (mkF m 6 #[rv a1, rv ac] [.null, (.int 0), (.int 0), (.ref ac), (.ref a1)]))
  obtain ⟨_, _, ⟨T2, L2, kk2, nn2⟩, -, X2, hs22, hg2, ⟨Lc2, hQ2, lq2, yq2, zq2, hC2⟩, st2⟩ := X0.specialBackS hx (y := (⟨"java/lang/String", "<init>", "([CIILjava/lang/Void;)V"⟩ : MethodName)) rfl hown (mvT hZ (w44 hw)) (mvT hZ (w45 hw)) (mvT hZ (w47 hw)) (by decide) (backOfSH (vm0 := s.vm) (W := 0) (rm_strE4 l Z a0 hw [] a1 ac kc h0 n0 (Nat.le_trans Z0 (Nat.le_refl _)) H0 H1 H2 H3 g_a1 ne_a1_ac) hZ (w47 hw) (w39 hw) (by decide) (by decide) (hEL hw) C0.1) (g := (mkF m 6 #[rv a1, rv ac] [.null, (.int 0), (.int 0), (.ref ac), (.ref a1)])) rfl (by rw [hml]; rfl) (Steps.refl _) (a := a1) (argsL := [(.ref ac), (.int 0), (.int 0), .null]) (rest := []) (lenOf pd_0 rfl) rfl (by show 2 * 0 + _ ≤ _; exact Nat.le_of_eq rfl) (hb hby d1_6) (fun _ _ => ⟨rfl, e0, (by decide : 0 + 4 ≤ _), (by decide : 0 + 8 ≤ _)⟩)
  dsimp only [Pt.U, Pt.locs, Pt.cells, Pt.slots] at X2 hs22 hg2 lq2 yq2 zq2 st2 hQ2 hC2
  subst lq2 yq2 zq2
  rw [e0] at hg2
  obtain ⟨X2, hS2, hZ2, hown2⟩ := rebS (vm0 := s.vm) hS0 (Nat.le_trans hk0 (Nat.le_refl _)) X2 hs22 hg2 hZ hown
  obtain ⟨h2, e2⟩ : ∃ z, T2.heap = z := ⟨_, rfl⟩
  rw [e2] at hQ2 hg2 hC2 hS2
  obtain ⟨t_2, kb_2, rfl, N2q, K2, p2_0, p2_1, p2_2, p2_3⟩ := hQ2
  have N2 := Fr.app N0 N2q
  have C3 : CHr Z consts_1 s.vm h0 T2.vm h2 := CHr.trans C0 hC2
  refine go_tr st2 ?_
  show Go _ _ _ _ (T2.setTop (mkF m 9 #[rv a1, rv ac] []))
  have ke4 : Keep h0 h2 [a1] := (Keep.trans (Keep.refl h0 [a1]) K2 (allS (Or.inl (List.mem_of_getElem? (i := 0) rfl)) all0))
  obtain ⟨fs, hr, hrun, hended, hR⟩ := X2.leaveW hS2 (by rw [e2]; exact (Nat.le_trans (Nat.le_refl _) (Nat.le_refl _))) (v := none) (fun _ => rfl)
  refine ⟨_, _, ?_, hrun, hended, _, _, rfl, ?_, ?_, hR.1, hR.2.1, hR.2.2.1, hR.2.2.2.mono (by decide) (by decide)⟩
  · exact X2.returnOut hx Bd.returns (hb hby d1_9) hr
  · show Q_strE1 _ _ _ _ _ _ _ T2.heap _
    rw [e2]
    exact ⟨t_2, kb_2, rfl, N2, ke4, p2_0, p2_1, p2_2, p2_3⟩
  · show CHr Z consts_1 s.vm s.heap T2.vm T2.heap
    rw [hh, e2]
    exact CHr.trans C3 (CHv.at X2 hZ2 (hEL hw) C3.1)
def Q_acinit (Z : State) (al : Addr) (h0 : Heap) (n0 : Nat) (vR : Option Value) (h : Heap) (L : List Loc) : Prop := vR = none ∧ Fr n0 L ∧ h = h0
theorem ef_acinit (m : MethodId) (x0 : Addr) : entryFrame m #[(.ref x0)] 1 = mkF m 0 #[.val (.ref x0)] [] := by first | (simp [entryFrame, mkF, argsToLocals, Value.category]; done) | rfl
set_option maxRecDepth 65536 in
set_option maxHeartbeats 40000000 in
theorem rm_acinit (l : Launch) (Z : State) (a0 : Array Value) (hw : ∀ d ∈ tables_1, d.before a0 Z = true) (ws : List Jvm.Cond) (al : Addr) (h0 : Heap) (n0 : Nat) (Z0 : n0 ≤ h0.size)  :
    MetFree l (⟨"java/util/AbstractCollection", "<init>", "()V"⟩ : MethodName) (head1 (Jvm.Cond.code (⟨"java/util/AbstractCollection", "<init>", "()V"⟩ : MethodName) jdk_22_method_1_code 1 none :: ws) ({ frames := 1, cells := 0, slots := 0, locals := 12 } : Room)) (fun a U => a = #[(.ref al)] ∧ Z.Warmed39 U.vm ∧ U.heap = h0) (fun _ _ _ _ _ => True) (fun _ U o U' => ∃ v L, o = .returned v ∧ Q_acinit Z al h0 n0 v U'.heap L ∧ FrameEnd U o U' L ({ frames := 1, cells := 0, slots := 0, locals := 12 } : Room).cells ({ frames := 1, cells := 0, slots := 0, locals := 12 } : Room).slots) := by
  refine MetFree.of_bodySF (plainFor_of_name pn_java_util_AbstractCollection) hisR ?_
  intro p e s m args below meth c s₁ Bd hml0 hP hK
  obtain ⟨rfl, hZ, hh⟩ := hP
  have hx := Bd.exec
  have hby := Bd.bytes
  have hml : c.maxLocals = 1 := hml0
  have hown : s.vm.findClass "java/util/AbstractCollection" = some m.cls := findClass_of_methodNamed Bd.named
  have hnm := (name_of_methodNamed Bd.named Bd.method).1
  have X0 : Stand p l e ({ frames := 1, cells := 0, slots := 0, locals := 12 } : Room) s m #[(.ref al)] below meth c s₁ [] 0 0 := Stand.of_body Bd
  have e0 : s₁.heap = h0 := by rw [← hh, Bd.state]; rfl
  have N0 := Fr.nil n0
  refine go_st (fun t k => castTop (ef_acinit m al) k) ?_
  show Go _ _ _ _ (s₁.setTop (mkF m 0 #[rv al] []))
  refine go_st (fun t k => XS.aloadN X0.here hx rfl (hb hby d2_0) rfl rfl k) ?_
  show Go _ _ _ _ (s₁.setTop (mkF m 1 #[rv al] [(.ref al)]))
  obtain ⟨T1, X1, e1, st1⟩ := initO X0 hx hZ hown (w149 hw) (w13 hw) (w14 hw) e0 (g := (mkF m 1 #[rv al] [(.ref al)])) rfl (by rw [hml]; rfl) rfl (hb hby d2_1) (by decide) (W := 0) (by show 2 * 0 + _ ≤ _; exact Nat.le_of_eq rfl) (by decide)
  refine go_st (fun t k => st1 t k) ?_
  show Go _ _ _ _ (T1.setTop (mkF m 4 #[rv al] []))
  obtain ⟨fs, hr, hrun, hended, hW, hsame⟩ := X1.leave (v := none) (fun _ => rfl)
  refine ⟨_, _, ?_, hrun, hended, _, _, rfl, ?_, ⟨_, rfl⟩, hW, hsame.mono (by decide) (by decide)⟩
  · exact X1.returnOut hx Bd.returns (hb hby d2_4) hr
  · show Q_acinit _ _ _ _ _ T1.heap _
    rw [e1]
    exact ⟨rfl, N0, rfl⟩
def Q_abinit (Z : State) (al : Addr) (h0 : Heap) (n0 : Nat) (vR : Option Value) (h : Heap) (L : List Loc) : Prop := vR = none ∧ Fr n0 L ∧ Keep h0 h [al] ∧ (Exa Z h al cAL) ∧ (Fld Z h al cAL "elementData" "[Ljava/lang/Object;" .null) ∧ (Fld Z h al cAL "size" "I" (.int 0)) ∧ (Fld Z h al "java/util/AbstractList" "modCount" "I" (.int 0))
theorem ef_abinit (m : MethodId) (x0 : Addr) : entryFrame m #[(.ref x0)] 1 = mkF m 0 #[.val (.ref x0)] [] := by first | (simp [entryFrame, mkF, argsToLocals, Value.category]; done) | rfl
set_option maxRecDepth 65536 in
set_option maxHeartbeats 40000000 in
theorem rm_abinit (l : Launch) (Z : State) (a0 : Array Value) (hw : ∀ d ∈ tables_1, d.before a0 Z = true) (ws : List Jvm.Cond) (al : Addr) (h0 : Heap) (n0 : Nat) (Z0 : n0 ≤ h0.size) (H0 : Exa Z h0 al cAL) (H1 : Fld Z h0 al cAL "elementData" "[Ljava/lang/Object;" .null) (H2 : Fld Z h0 al cAL "size" "I" (.int 0)) (H3 : Fld Z h0 al "java/util/AbstractList" "modCount" "I" (.int 0)) (g_al : n0 ≤ al) :
    MetFree l (⟨"java/util/AbstractList", "<init>", "()V"⟩ : MethodName) (head1 (Jvm.Cond.code (⟨"java/util/AbstractList", "<init>", "()V"⟩ : MethodName) jdk_39_method_1_code 1 none :: ws) ({ frames := 2, cells := 0, slots := 0, locals := 24 } : Room)) (fun a U => a = #[(.ref al)] ∧ Z.Warmed39 U.vm ∧ U.heap = h0) (fun _ _ _ _ _ => True) (fun _ U o U' => ∃ v L, o = .returned v ∧ Q_abinit Z al h0 n0 v U'.heap L ∧ FrameEnd U o U' L ({ frames := 2, cells := 0, slots := 0, locals := 24 } : Room).cells ({ frames := 2, cells := 0, slots := 0, locals := 24 } : Room).slots) := by
  refine MetFree.of_bodySF (plainFor_of_name pn_java_util_AbstractList) hisR ?_
  intro p e s m args below meth c s₁ Bd hml0 hP hK
  obtain ⟨rfl, hZ, hh⟩ := hP
  have hx := Bd.exec
  have hby := Bd.bytes
  have hml : c.maxLocals = 1 := hml0
  have hown : s.vm.findClass "java/util/AbstractList" = some m.cls := findClass_of_methodNamed Bd.named
  have hnm := (name_of_methodNamed Bd.named Bd.method).1
  have X0 : Stand p l e ({ frames := 2, cells := 0, slots := 0, locals := 24 } : Room) s m #[(.ref al)] below meth c s₁ [] 0 0 := Stand.of_body Bd
  have e0 : s₁.heap = h0 := by rw [← hh, Bd.state]; rfl
  have N0 := Fr.nil n0
  refine go_st (fun t k => castTop (ef_abinit m al) k) ?_
  show Go _ _ _ _ (s₁.setTop (mkF m 0 #[rv al] []))
  refine go_st (fun t k => XS.aloadN X0.here hx rfl (hb hby d3_0) rfl rfl k) ?_
  show Go _ _ _ _ (s₁.setTop (mkF m 1 #[rv al] [(.ref al)]))
  obtain ⟨_, _, ⟨T1, L1, kk1, nn1⟩, -, X1, ⟨Lc1, hQ1, lq1, yq1, zq1⟩, st1⟩ := X0.specialBack hx (y := (⟨"java/util/AbstractCollection", "<init>", "()V"⟩ : MethodName)) rfl hown (mvT hZ (w143 hw)) (mvT hZ (w144 hw)) (mvT hZ (w148 hw)) (by decide) (backOf (W := 0) (rm_acinit l Z a0 hw [] al h0 n0 (Nat.le_trans Z0 (Nat.le_refl _)) ) hZ (w148 hw) (w147 hw) (by decide) (by decide)) (g := (mkF m 1 #[rv al] [(.ref al)])) rfl (by rw [hml]; rfl) (Steps.refl _) (a := al) (argsL := []) (rest := []) (lenOf pd_1 rfl) rfl (by show 2 * 0 + _ ≤ _; exact Nat.le_of_eq rfl) (hb hby d3_1) (fun _ _ => ⟨rfl, e0, (by decide : 0 + 0 ≤ _), (by decide : 0 + 0 ≤ _)⟩)
  dsimp only [Pt.U, Pt.locs, Pt.cells, Pt.slots] at X1 lq1 yq1 zq1 st1 hQ1
  subst lq1 yq1 zq1
  obtain ⟨h1, e1⟩ : ∃ z, T1.heap = z := ⟨_, rfl⟩
  rw [e1] at hQ1
  obtain ⟨rfl, N1q, he1⟩ := hQ1
  have N1 := Fr.app N0 N1q
  rw [he1] at e1
  refine go_tr st1 ?_
  show Go _ _ _ _ (T1.setTop (mkF m 4 #[rv al] []))
  refine go_st (fun t k => XS.aloadN X1.here hx rfl (hb hby d3_4) rfl rfl k) ?_
  refine go_st (fun t k => XS.iconst X1.here hx rfl (hb hby d3_5) k) ?_
  show Go _ _ _ _ (T1.setTop (mkF m 6 #[rv al] [(.int 0), (.ref al)]))
  obtain ⟨T2, h2, X2, e2, W2, st2⟩ := putF X1 hx hZ hown (host := "") (Or.inl (w150 hw)) Via.refl e1 H3 H0 (Or.inl (w151 hw)) (w132 hw) (ty := .int) (by decide) rfl rfl (g := (mkF m 6 #[rv al] [(.int 0), (.ref al)])) rfl rfl (hb hby d3_6)
  have N2 := Fr.snoc X2 N1 g_al
  have f3 : Fld Z h2 al "java/util/AbstractList" "modCount" "I" (.int 0) := H3.same W2
  refine go_st (fun t k => st2 t k) ?_
  show Go _ _ _ _ (T2.setTop (mkF m 9 #[rv al] []))
  have f4 : Exa Z h2 al cAL := (H0.wr W2)
  have f5 : Fld Z h2 al cAL "elementData" "[Ljava/lang/Object;" .null := (H1.other W2 (Or.inr (slot_ne (Or.inl (w154 hw)) (Or.inl (w151 hw)) (by decide) (t := (.array (.object "java/lang/Object"))) (t' := .int) (by decide) (by decide))))
  have f6 : Fld Z h2 al cAL "size" "I" (.int 0) := (H2.other W2 (Or.inr (slot_ne (Or.inl (w212 hw)) (Or.inl (w151 hw)) (by decide) (t := .int) (t' := .int) (by decide) (by decide))))
  have ke7 : Keep h0 h2 [al] := (Keep.wr (Keep.refl h0 [al]) W2 (Or.inl (List.mem_of_getElem? (i := 0) rfl)))
  obtain ⟨fs, hr, hrun, hended, hW, hsame⟩ := X2.leave (v := none) (fun _ => rfl)
  refine ⟨_, _, ?_, hrun, hended, _, _, rfl, ?_, ⟨_, rfl⟩, hW, hsame.mono (by decide) (by decide)⟩
  · exact X2.returnOut hx Bd.returns (hb hby d3_9) hr
  · show Q_abinit _ _ _ _ _ T2.heap _
    rw [e2]
    exact ⟨rfl, N2, ke7, f4, f5, f6, f3⟩
def Q_alinit (Z : State) (al : Addr) (de : Addr) (h0 : Heap) (n0 : Nat) (vR : Option Value) (h : Heap) (L : List Loc) : Prop := vR = none ∧ Fr n0 L ∧ Keep h0 h [al] ∧ (Exa Z h al cAL) ∧ (Fld Z h al cAL "elementData" "[Ljava/lang/Object;" (.ref de)) ∧ (Fld Z h al cAL "size" "I" (.int 0)) ∧ (Fld Z h al "java/util/AbstractList" "modCount" "I" (.int 0))
theorem ef_alinit (m : MethodId) (x0 : Addr) : entryFrame m #[(.ref x0)] 1 = mkF m 0 #[.val (.ref x0)] [] := by first | (simp [entryFrame, mkF, argsToLocals, Value.category]; done) | rfl
set_option maxRecDepth 65536 in
set_option maxHeartbeats 40000000 in
theorem rm_alinit (l : Launch) (Z : State) (a0 : Array Value) (hw : ∀ d ∈ tables_1, d.before a0 Z = true) (ws : List Jvm.Cond) (al : Addr) (de : Addr) (h0 : Heap) (n0 : Nat) (Z0 : n0 ≤ h0.size) (H0 : Exa Z h0 al cAL) (H1 : Fld Z h0 al cAL "elementData" "[Ljava/lang/Object;" .null) (H2 : Fld Z h0 al cAL "size" "I" (.int 0)) (H3 : Fld Z h0 al "java/util/AbstractList" "modCount" "I" (.int 0)) (g_al : n0 ≤ al) (DES : Sta Z Z.heap "java/util/ArrayList" "DEFAULTCAPACITY_EMPTY_ELEMENTDATA" "[Ljava/lang/Object;" (.ref de)) (zl_de : de < Z.heap.size) (O0 : Old Z n0 h0) :
    MetFree l (⟨"java/util/ArrayList", "<init>", "()V"⟩ : MethodName) (head1 (Jvm.Cond.code (⟨"java/util/ArrayList", "<init>", "()V"⟩ : MethodName) jdk_38_method_2_code 1 none :: ws) ({ frames := 3, cells := 0, slots := 0, locals := 36 } : Room)) (fun a U => a = #[(.ref al)] ∧ Z.Warmed39 U.vm ∧ U.heap = h0) (fun _ _ _ _ _ => True) (fun _ U o U' => ∃ v L, o = .returned v ∧ Q_alinit Z al de h0 n0 v U'.heap L ∧ FrameEnd U o U' L ({ frames := 3, cells := 0, slots := 0, locals := 36 } : Room).cells ({ frames := 3, cells := 0, slots := 0, locals := 36 } : Room).slots) := by
  refine MetFree.of_bodySF (plainFor_of_name pn_java_util_ArrayList) hisR ?_
  intro p e s m args below meth c s₁ Bd hml0 hP hK
  obtain ⟨rfl, hZ, hh⟩ := hP
  have hx := Bd.exec
  have hby := Bd.bytes
  have hml : c.maxLocals = 1 := hml0
  have hown : s.vm.findClass "java/util/ArrayList" = some m.cls := findClass_of_methodNamed Bd.named
  have hnm := (name_of_methodNamed Bd.named Bd.method).1
  have X0 : Stand p l e ({ frames := 3, cells := 0, slots := 0, locals := 36 } : Room) s m #[(.ref al)] below meth c s₁ [] 0 0 := Stand.of_body Bd
  have e0 : s₁.heap = h0 := by rw [← hh, Bd.state]; rfl
  have N0 := Fr.nil n0
  refine go_st (fun t k => castTop (ef_alinit m al) k) ?_
  show Go _ _ _ _ (s₁.setTop (mkF m 0 #[rv al] []))
  refine go_st (fun t k => XS.aloadN X0.here hx rfl (hb hby d4_0) rfl rfl k) ?_
  show Go _ _ _ _ (s₁.setTop (mkF m 1 #[rv al] [(.ref al)]))
  obtain ⟨_, _, ⟨T1, L1, kk1, nn1⟩, -, X1, ⟨Lc1, hQ1, lq1, yq1, zq1⟩, st1⟩ := X0.specialBack hx (y := (⟨"java/util/AbstractList", "<init>", "()V"⟩ : MethodName)) rfl hown (mvT hZ (w137 hw)) (mvT hZ (w138 hw)) (mvT hZ (w142 hw)) (by decide) (backOf (W := 0) (rm_abinit l Z a0 hw [] al h0 n0 (Nat.le_trans Z0 (Nat.le_refl _)) H0 H1 H2 H3 g_al) hZ (w142 hw) (w141 hw) (by decide) (by decide)) (g := (mkF m 1 #[rv al] [(.ref al)])) rfl (by rw [hml]; rfl) (Steps.refl _) (a := al) (argsL := []) (rest := []) (lenOf pd_1 rfl) rfl (by show 2 * 0 + _ ≤ _; exact Nat.le_of_eq rfl) (hb hby d4_1) (fun _ _ => ⟨rfl, e0, (by decide : 0 + 0 ≤ _), (by decide : 0 + 0 ≤ _)⟩)
  dsimp only [Pt.U, Pt.locs, Pt.cells, Pt.slots] at X1 lq1 yq1 zq1 st1 hQ1
  subst lq1 yq1 zq1
  obtain ⟨h1, e1⟩ : ∃ z, T1.heap = z := ⟨_, rfl⟩
  rw [e1] at hQ1
  obtain ⟨rfl, N1q, K1, p1_0, p1_1, p1_2, p1_3⟩ := hQ1
  have N1 := Fr.app N0 N1q
  refine go_tr st1 ?_
  show Go _ _ _ _ (T1.setTop (mkF m 4 #[rv al] []))
  refine go_st (fun t k => XS.aloadN X1.here hx rfl (hb hby d4_4) rfl rfl k) ?_
  show Go _ _ _ _ (T1.setTop (mkF m 5 #[rv al] [(.ref al)]))
  have oe3 : Old Z n0 h1 := (Old.keep O0 K1 (allS g_al all0))
  obtain ⟨T2, X2, e2, st2⟩ := getS2 X1 hx hZ hown (host := "") (Or.inl (w152 hw)) Via.refl e1 (Sta.ext oe3.2 DES) (g := (mkF m 5 #[rv al] [(.ref al)])) rfl (hb hby d4_5)
  refine go_st (fun t k => st2 t k) ?_
  show Go _ _ _ _ (T2.setTop (mkF m 8 #[rv al] [(.ref de), (.ref al)]))
  obtain ⟨T4, h4, X4, e4, W4, st4⟩ := putF X2 hx hZ hown (host := "") (Or.inl (w153 hw)) Via.refl e2 p1_1 p1_0 (Or.inl (w154 hw)) (w132 hw) (ty := (.array (.object "java/lang/Object"))) (by decide) rfl rfl (g := (mkF m 8 #[rv al] [(.ref de), (.ref al)])) rfl rfl (hb hby d4_8)
  have N4 := Fr.snoc X4 N1 g_al
  have f5 : Fld Z h4 al cAL "elementData" "[Ljava/lang/Object;" (.ref de) := p1_1.same W4
  refine go_st (fun t k => st4 t k) ?_
  show Go _ _ _ _ (T4.setTop (mkF m 11 #[rv al] []))
  have f6 : Exa Z h4 al cAL := (p1_0.wr W4)
  have f7 : Fld Z h4 al cAL "size" "I" (.int 0) := (p1_2.other W4 (Or.inr (slot_ne (Or.inl (w212 hw)) (Or.inl (w154 hw)) (by decide) (t := .int) (t' := (.array (.object "java/lang/Object"))) (by decide) (by decide))))
  have f8 : Fld Z h4 al "java/util/AbstractList" "modCount" "I" (.int 0) := (p1_3.other W4 (Or.inr (slot_ne (Or.inl (w151 hw)) (Or.inl (w154 hw)) (by decide) (t := .int) (t' := (.array (.object "java/lang/Object"))) (by decide) (by decide))))
  have ke9 : Keep h0 h1 [al] := (Keep.trans (Keep.refl h0 [al]) K1 (allS (Or.inl (List.mem_of_getElem? (i := 0) rfl)) all0))
  have ke10 : Keep h0 h4 [al] := (Keep.wr ke9 W4 (Or.inl (List.mem_of_getElem? (i := 0) rfl)))
  obtain ⟨fs, hr, hrun, hended, hW, hsame⟩ := X4.leave (v := none) (fun _ => rfl)
  refine ⟨_, _, ?_, hrun, hended, _, _, rfl, ?_, ⟨_, rfl⟩, hW, hsame.mono (by decide) (by decide)⟩
  · exact X4.returnOut hx Bd.returns (hb hby d4_11) hr
  · show Q_alinit _ _ _ _ _ _ T4.heap _
    rw [e4]
    exact ⟨rfl, N4, ke10, f6, f5, f7, f8⟩
def Q_adinit (Z : State) (al : Addr) (h0 : Heap) (n0 : Nat) (vR : Option Value) (h : Heap) (L : List Loc) : Prop := vR = none ∧ Fr n0 L ∧ Keep h0 h [al] ∧ (Exa Z h al "java/util/ArrayDeque")
theorem ef_adinit (m : MethodId) (x0 : Addr) : entryFrame m #[(.ref x0)] 1 = mkF m 0 #[.val (.ref x0)] [] := by first | (simp [entryFrame, mkF, argsToLocals, Value.category]; done) | rfl
set_option maxRecDepth 65536 in
set_option maxHeartbeats 40000000 in
theorem rm_adinit (l : Launch) (Z : State) (a0 : Array Value) (hw : ∀ d ∈ tables_1, d.before a0 Z = true) (ws : List Jvm.Cond) (al : Addr) (h0 : Heap) (n0 : Nat) (Z0 : n0 ≤ h0.size) (H0 : Exa Z h0 al "java/util/ArrayDeque") (H1 : Fld Z h0 al "java/util/ArrayDeque" "elements" "[Ljava/lang/Object;" .null) (g_al : n0 ≤ al) :
    MetFree l (⟨"java/util/ArrayDeque", "<init>", "()V"⟩ : MethodName) (head1 (Jvm.Cond.code (⟨"java/util/ArrayDeque", "<init>", "()V"⟩ : MethodName) jdk_21_method_3_code 1 none :: ws) ({ frames := 2, cells := 1, slots := 17, locals := 24 } : Room)) (fun a U => a = #[(.ref al)] ∧ Z.Warmed39 U.vm ∧ U.heap = h0) (fun _ _ _ _ _ => True) (fun _ U o U' => ∃ v L, o = .returned v ∧ Q_adinit Z al h0 n0 v U'.heap L ∧ FrameEnd U o U' L ({ frames := 2, cells := 1, slots := 17, locals := 24 } : Room).cells ({ frames := 2, cells := 1, slots := 17, locals := 24 } : Room).slots) := by
  refine MetFree.of_bodySF (plainFor_of_name pn_java_util_ArrayDeque) hisR ?_
  intro p e s m args below meth c s₁ Bd hml0 hP hK
  obtain ⟨rfl, hZ, hh⟩ := hP
  have hx := Bd.exec
  have hby := Bd.bytes
  have hml : c.maxLocals = 1 := hml0
  have hown : s.vm.findClass "java/util/ArrayDeque" = some m.cls := findClass_of_methodNamed Bd.named
  have hnm := (name_of_methodNamed Bd.named Bd.method).1
  have X0 : Stand p l e ({ frames := 2, cells := 1, slots := 17, locals := 24 } : Room) s m #[(.ref al)] below meth c s₁ [] 0 0 := Stand.of_body Bd
  have e0 : s₁.heap = h0 := by rw [← hh, Bd.state]; rfl
  have N0 := Fr.nil n0
  refine go_st (fun t k => castTop (ef_adinit m al) k) ?_
  show Go _ _ _ _ (s₁.setTop (mkF m 0 #[rv al] []))
  refine go_st (fun t k => XS.aloadN X0.here hx rfl (hb hby d5_0) rfl rfl k) ?_
  show Go _ _ _ _ (s₁.setTop (mkF m 1 #[rv al] [(.ref al)]))
  obtain ⟨_, _, ⟨T1, L1, kk1, nn1⟩, -, X1, ⟨Lc1, hQ1, lq1, yq1, zq1⟩, st1⟩ := X0.specialBack hx (y := (⟨"java/util/AbstractCollection", "<init>", "()V"⟩ : MethodName)) rfl hown (mvT hZ (w165 hw)) (mvT hZ (w144 hw)) (mvT hZ (w148 hw)) (by decide) (backOf (W := 0) (rm_acinit l Z a0 hw [] al h0 n0 (Nat.le_trans Z0 (Nat.le_refl _)) ) hZ (w148 hw) (w147 hw) (by decide) (by decide)) (g := (mkF m 1 #[rv al] [(.ref al)])) rfl (by rw [hml]; rfl) (Steps.refl _) (a := al) (argsL := []) (rest := []) (lenOf pd_1 rfl) rfl (by show 2 * 0 + _ ≤ _; exact Nat.le_of_eq rfl) (hb hby d5_1) (fun _ _ => ⟨rfl, e0, (by decide : 0 + 0 ≤ _), (by decide : 0 + 0 ≤ _)⟩)
  dsimp only [Pt.U, Pt.locs, Pt.cells, Pt.slots] at X1 lq1 yq1 zq1 st1 hQ1
  subst lq1 yq1 zq1
  obtain ⟨h1, e1⟩ : ∃ z, T1.heap = z := ⟨_, rfl⟩
  rw [e1] at hQ1
  obtain ⟨rfl, N1q, he1⟩ := hQ1
  have N1 := Fr.app N0 N1q
  rw [he1] at e1
  refine go_tr st1 ?_
  show Go _ _ _ _ (T1.setTop (mkF m 4 #[rv al] []))
  refine go_st (fun t k => XS.aloadN X1.here hx rfl (hb hby d5_4) rfl rfl k) ?_
  refine go_st (fun t k => XS.bipush X1.here hx rfl (hb hby d5_5) k) ?_
  show Go _ _ _ _ (T1.setTop (mkF m 7 #[rv al] [(.int 17), (.ref al)]))
  obtain ⟨T2, h2, kc2, X2, e2, E2, A2, ov2, st2⟩ := newR X1 hx hZ hown (w167 hw) (w168 hw) e1 (g := (mkF m 7 #[rv al] [(.int 17), (.ref al)])) rfl (hb hby d5_7) rfl (by decide) (cap := 17) (by decide) (by decide) (by decide) (by decide)
  obtain ⟨b2, gq2⟩ : ∃ z, z = h0.size := ⟨_, rfl⟩
  rw [← gq2] at A2 st2
  have f3 : Arv Z h2 b2 kc2 (.object "java/lang/Object") (17 : Int32) [.null] .null := (Arv.new A2 (by decide)).pad (pad_rep [] .null 1)
  refine go_st (fun t k => st2 t k) ?_
  show Go _ _ _ _ (T2.setTop (mkF m 10 #[rv al] [(.ref b2), (.ref al)]))
  have f4 : Fld Z h2 al "java/util/ArrayDeque" "elements" "[Ljava/lang/Object;" .null := (H1.ext E2)
  have f5 : Exa Z h2 al "java/util/ArrayDeque" := (H0.ext E2)
  obtain ⟨T6, h6, X6, e6, W6, st6⟩ := putF X2 hx hZ hown (host := "") (Or.inl (w169 hw)) Via.refl e2 f4 f5 (Or.inl (w170 hw)) (w160 hw) (ty := (.array (.object "java/lang/Object"))) (by decide) rfl rfl (g := (mkF m 10 #[rv al] [(.ref b2), (.ref al)])) rfl rfl (hb hby d5_10)
  have N6 := Fr.snoc X6 N1 g_al
  have f7 : Fld Z h6 al "java/util/ArrayDeque" "elements" "[Ljava/lang/Object;" (.ref b2) := f4.same W6
  refine go_st (fun t k => st6 t k) ?_
  show Go _ _ _ _ (T6.setTop (mkF m 13 #[rv al] []))
  have f8 : Exa Z h6 al "java/util/ArrayDeque" := (f5.wr W6)
  have ke9 : Keep h0 h2 [al] := (Keep.ext (Keep.refl h0 [al]) E2)
  have ke10 : Keep h0 h6 [al] := (Keep.wr ke9 W6 (Or.inl (List.mem_of_getElem? (i := 0) rfl)))
  obtain ⟨fs, hr, hrun, hended, hW, hsame⟩ := X6.leave (v := none) (fun _ => rfl)
  refine ⟨_, _, ?_, hrun, hended, _, _, rfl, ?_, ⟨_, rfl⟩, hW, hsame.mono (by decide) (by decide)⟩
  · exact X6.returnOut hx Bd.returns (hb hby d5_13) hr
  · show Q_adinit _ _ _ _ _ T6.heap _
    rw [e6]
    exact ⟨rfl, N6, ke10, f8⟩
def Q_max (Z : State)  (h0 : Heap) (n0 : Nat) (vR : Option Value) (h : Heap) (L : List Loc) : Prop := vR = some (.int 10) ∧ Fr n0 L ∧ h = h0
theorem ef_max (m : MethodId) (x0 : Int32) (x1 : Int32) : entryFrame m #[(.int x0), (.int x1)] 2 = mkF m 0 #[.val (.int x0), .val (.int x1)] [] := by first | (simp [entryFrame, mkF, argsToLocals, Value.category]; done) | rfl
set_option maxRecDepth 65536 in
set_option maxHeartbeats 40000000 in
theorem rm_max (l : Launch) (Z : State) (a0 : Array Value) (hw : ∀ d ∈ tables_1, d.before a0 Z = true) (ws : List Jvm.Cond)  (h0 : Heap) (n0 : Nat) (Z0 : n0 ≤ h0.size)  :
    MetFree l (⟨"java/lang/Math", "max", "(II)I"⟩ : MethodName) (head1 (Jvm.Cond.code (⟨"java/lang/Math", "max", "(II)I"⟩ : MethodName) jdk_29_method_65_code 2 (some .int) :: ws) ({ frames := 0, cells := 0, slots := 0, locals := 0 } : Room)) (fun a U => a = #[(.int 10), (.int 1)] ∧ Z.Warmed39 U.vm ∧ U.heap = h0) (fun _ _ _ _ _ => True) (fun _ U o U' => ∃ v L, o = .returned v ∧ Q_max Z h0 n0 v U'.heap L ∧ FrameEnd U o U' L ({ frames := 0, cells := 0, slots := 0, locals := 0 } : Room).cells ({ frames := 0, cells := 0, slots := 0, locals := 0 } : Room).slots) := by
  refine MetFree.of_bodySF (by decide +kernel) hisR ?_
  intro p e s m args below meth c s₁ Bd hml0 hP hK
  obtain ⟨rfl, hZ, hh⟩ := hP
  have hx := Bd.exec
  have hby := Bd.bytes
  have hml : c.maxLocals = 2 := hml0
  have hown : s.vm.findClass "java/lang/Math" = some m.cls := findClass_of_methodNamed Bd.named
  have hnm := (name_of_methodNamed Bd.named Bd.method).1
  have X0 : Stand p l e ({ frames := 0, cells := 0, slots := 0, locals := 0 } : Room) s m #[(.int 10), (.int 1)] below meth c s₁ [] 0 0 := Stand.of_body Bd
  have e0 : s₁.heap = h0 := by rw [← hh, Bd.state]; rfl
  have N0 := Fr.nil n0
  refine go_st (fun t k => castTop (ef_max m (10 : Int32) (1 : Int32)) k) ?_
  show Go _ _ _ _ (s₁.setTop (mkF m 0 #[iv 10, iv 1] []))
  refine go_st (fun t k => XS.iloadN X0.here hx rfl (hb hby d6_0) rfl k) ?_
  refine go_st (fun t k => XS.iloadN X0.here hx rfl (hb hby d6_1) rfl k) ?_
  show Go _ _ _ _ (s₁.setTop (mkF m 2 #[iv 10, iv 1] [(.int 1), (.int 10)]))
  refine go_st (fun t k => XS.icmpNo X0.here hx rfl (hb hby d6_2) rfl (flt ((by decide) : ¬ ((10 : Int32) < (1 : Int32)))).1 k) ?_
  show Go _ _ _ _ (s₁.setTop (mkF m 5 #[iv 10, iv 1] []))
  refine go_st (fun t k => XS.iloadN X0.here hx rfl (hb hby d6_5) rfl k) ?_
  refine go_st (fun t k => XS.goto X0.here hx rfl (pc0 := 6) (pc' := 10) rfl (hb hby d6_6) (by decide) (by decide) k) ?_
  show Go _ _ _ _ (s₁.setTop (mkF m 10 #[iv 10, iv 1] [(.int 10)]))
  obtain ⟨fs, hr, hrun, hended, hW, hsame⟩ := X0.leave (v := some (.int 10)) (fun h => by rw [Bd.returns] at h; cases h)
  refine ⟨_, _, ?_, hrun, hended, _, _, rfl, ?_, ⟨_, rfl⟩, hW, hsame.mono (by decide) (by decide)⟩
  · exact retI X0 hx Bd.returns (hb hby d6_10) hr
  · show Q_max _ _ _ _ s₁.heap _
    rw [e0]
    exact ⟨rfl, N0, rfl⟩
def Q_grow1 (Z : State) (al : Addr) (de : Addr) (kd : ClassId) (h0 : Heap) (n0 : Nat) (vR : Option Value) (h : Heap) (L : List Loc) : Prop := ∃ (ea : Addr) (ke : ClassId), vR = some (.ref ea) ∧ Fr n0 L ∧ Keep h0 h [al] ∧ n0 ≤ ea ∧ h0.size ≤ ea ∧ (Exa Z h al cAL) ∧ (Fld Z h al cAL "elementData" "[Ljava/lang/Object;" (.ref ea)) ∧ (Fld Z h al cAL "size" "I" (.int 0)) ∧ (Fld Z h al "java/util/AbstractList" "modCount" "I" (.int 1)) ∧ (Arv Z h ea ke (.object "java/lang/Object") (10 : Int32) [.null] .null) ∧ Ovr Z ke "java/lang/Object"
theorem ef_grow1 (m : MethodId) (x0 : Addr) (x1 : Int32) : entryFrame m #[(.ref x0), (.int x1)] 4 = mkF m 0 #[.val (.ref x0), .val (.int x1), .unset, .unset] [] := by first | (simp [entryFrame, mkF, argsToLocals, Value.category]; done) | rfl
set_option maxRecDepth 65536 in
set_option maxHeartbeats 40000000 in
theorem rm_grow1 (l : Launch) (Z : State) (a0 : Array Value) (hw : ∀ d ∈ tables_1, d.before a0 Z = true) (ws : List Jvm.Cond) (al : Addr) (de : Addr) (kd : ClassId) (h0 : Heap) (n0 : Nat) (Z0 : n0 ≤ h0.size) (H0 : Exa Z h0 al cAL) (H1 : Fld Z h0 al cAL "elementData" "[Ljava/lang/Object;" (.ref de)) (H2 : Fld Z h0 al cAL "size" "I" (.int 0)) (H3 : Fld Z h0 al "java/util/AbstractList" "modCount" "I" (.int 1)) (H4 : Arv Z h0 de kd (.object "java/lang/Object") (0 : Int32) [] .null) (g_al : n0 ≤ al) (DES : Sta Z Z.heap "java/util/ArrayList" "DEFAULTCAPACITY_EMPTY_ELEMENTDATA" "[Ljava/lang/Object;" (.ref de)) (zl_de : de < Z.heap.size) (O0 : Old Z n0 h0) :
    MetFree l (⟨"java/util/ArrayList", "grow", "(I)[Ljava/lang/Object;"⟩ : MethodName) (head1 (Jvm.Cond.code (⟨"java/util/ArrayList", "grow", "(I)[Ljava/lang/Object;"⟩ : MethodName) jdk_38_method_6_code 4 (some (.array (.object "java/lang/Object"))) :: ws) ({ frames := 1, cells := 1, slots := 10, locals := 14 } : Room)) (fun a U => a = #[(.ref al), (.int 1)] ∧ Z.Warmed39 U.vm ∧ U.heap = h0) (fun _ _ _ _ _ => True) (fun _ U o U' => ∃ v L, o = .returned v ∧ Q_grow1 Z al de kd h0 n0 v U'.heap L ∧ FrameEnd U o U' L ({ frames := 1, cells := 1, slots := 10, locals := 14 } : Room).cells ({ frames := 1, cells := 1, slots := 10, locals := 14 } : Room).slots) := by
  refine MetFree.of_bodySF (plainFor_of_name pn_java_util_ArrayList) hisR ?_
  intro p e s m args below meth c s₁ Bd hml0 hP hK
  obtain ⟨rfl, hZ, hh⟩ := hP
  have hx := Bd.exec
  have hby := Bd.bytes
  have hml : c.maxLocals = 4 := hml0
  have hown : s.vm.findClass "java/util/ArrayList" = some m.cls := findClass_of_methodNamed Bd.named
  have hnm := (name_of_methodNamed Bd.named Bd.method).1
  have X0 : Stand p l e ({ frames := 1, cells := 1, slots := 10, locals := 14 } : Room) s m #[(.ref al), (.int 1)] below meth c s₁ [] 0 0 := Stand.of_body Bd
  have e0 : s₁.heap = h0 := by rw [← hh, Bd.state]; rfl
  have N0 := Fr.nil n0
  refine go_st (fun t k => castTop (ef_grow1 m al (1 : Int32)) k) ?_
  show Go _ _ _ _ (s₁.setTop (mkF m 0 #[rv al, iv 1, .unset, .unset] []))
  refine go_st (fun t k => XS.aloadN X0.here hx rfl (hb hby d7_0) rfl rfl k) ?_
  show Go _ _ _ _ (s₁.setTop (mkF m 1 #[rv al, iv 1, .unset, .unset] [(.ref al)]))
  obtain ⟨T1, X1, e1, st1⟩ := getF X0 hx hZ hown (host := "") (Or.inl (w153 hw)) Via.refl e0 H1 (g := (mkF m 1 #[rv al, iv 1, .unset, .unset] [(.ref al)])) rfl rfl (hb hby d7_1)
  refine go_st (fun t k => st1 t k) ?_
  show Go _ _ _ _ (T1.setTop (mkF m 4 #[rv al, iv 1, .unset, .unset] [(.ref de)]))
  obtain ⟨zc2, zA2, zq2, zS2, zN2, zH2, zG2⟩ := id H4
  refine go_st (fun t k => X1.arraylength hx (by rw [e1]; exact zA2.1) (State.isArrayOf_alike hZ.alike zA2.2.1) (g := (mkF m 4 #[rv al, iv 1, .unset, .unset] [(.ref de)])) rfl rfl (hb hby d7_4) t k) ?_
  rw [len_of zS2 zN2]
  refine go_st (fun t k => XS.istoreN X1.here hx rfl (hb hby d7_5) rfl (l' := #[rv al, iv 1, iv 0, .unset]) rfl k) ?_
  refine go_st (fun t k => XS.iloadN X1.here hx rfl (hb hby d7_6) rfl k) ?_
  show Go _ _ _ _ (T1.setTop (mkF m 7 #[rv al, iv 1, iv 0, .unset] [(.int 0)]))
  refine go_st (fun t k => XS.ifNo X1.here hx rfl (hb hby d7_7) rfl ((if0 _ _).trans (flt ((by decide) : ¬ ((0 : Int32) < (0 : Int32)))).2.2.1) k) ?_
  show Go _ _ _ _ (T1.setTop (mkF m 10 #[rv al, iv 1, iv 0, .unset] []))
  refine go_st (fun t k => XS.aloadN X1.here hx rfl (hb hby d7_10) rfl rfl k) ?_
  show Go _ _ _ _ (T1.setTop (mkF m 11 #[rv al, iv 1, iv 0, .unset] [(.ref al)]))
  obtain ⟨T3, X3, e3, st3⟩ := getF X1 hx hZ hown (host := "") (Or.inl (w153 hw)) Via.refl e1 H1 (g := (mkF m 11 #[rv al, iv 1, iv 0, .unset] [(.ref al)])) rfl rfl (hb hby d7_11)
  refine go_st (fun t k => st3 t k) ?_
  show Go _ _ _ _ (T3.setTop (mkF m 14 #[rv al, iv 1, iv 0, .unset] [(.ref de)]))
  obtain ⟨T4, X4, e4, st4⟩ := getS2 X3 hx hZ hown (host := "") (Or.inl (w152 hw)) Via.refl e3 (Sta.ext O0.2 DES) (g := (mkF m 14 #[rv al, iv 1, iv 0, .unset] [(.ref de)])) rfl (hb hby d7_14)
  refine go_st (fun t k => st4 t k) ?_
  show Go _ _ _ _ (T4.setTop (mkF m 17 #[rv al, iv 1, iv 0, .unset] [(.ref de), (.ref de)]))
  refine go_st (fun t k => Jvm.RoadKit.acmp (g := (mkF m 17 #[rv al, iv 1, iv 0, .unset] [(.ref de), (.ref de)])) X4 hx rfl rfl rfl (pc0 := 17) (pc' := 45) (same := true) rfl (hb hby d7_17) rfl (decide_eq_true rfl) (by decide) (by decide) k) ?_
  show Go _ _ _ _ (T4.setTop (mkF m 45 #[rv al, iv 1, iv 0, .unset] []))
  refine go_st (fun t k => XS.aloadN X4.here hx rfl (hb hby d7_45) rfl rfl k) ?_
  refine go_st (fun t k => XS.bipush X4.here hx rfl (hb hby d7_46) k) ?_
  refine go_st (fun t k => XS.iloadN X4.here hx rfl (hb hby d7_48) rfl k) ?_
  show Go _ _ _ _ (T4.setTop (mkF m 49 #[rv al, iv 1, iv 0, .unset] [(.int 1), (.int 10), (.ref al)]))
  obtain ⟨_, _, ⟨T5, L5, kk5, nn5⟩, -, X5, ⟨Lc5, hQ5, lq5, yq5, zq5⟩, st5⟩ := Jvm.LawKit.callS X4 hx (y := (⟨"java/lang/Math", "max", "(II)I"⟩ : MethodName)) hown (mvT hZ (w228 hw)) (mvT hZ (w229 hw)) (mvT hZ (w230 hw)) (mvT hZ (w231 hw)) (by decide) (backOf (W := 1) (rm_max l Z a0 hw []  h0 n0 (Nat.le_trans Z0 (Nat.le_refl _)) ) hZ (w231 hw) (w230 hw) (by decide) (by decide)) (g := (mkF m 49 #[rv al, iv 1, iv 0, .unset] [(.int 1), (.int 10), (.ref al)])) rfl (by rw [hml]; rfl) (argsL := [(.int 10), (.int 1)]) (rest := [(.ref al)]) (lenOf pd_2 rfl) rfl (by show 2 * 0 + _ ≤ _; exact Nat.le_of_eq rfl) (hb hby d7_49) (fun _ _ => ⟨rfl, e4, (by decide : 0 + 0 ≤ _), (by decide : 0 + 0 ≤ _)⟩)
  dsimp only [Pt.U, Pt.locs, Pt.cells, Pt.slots] at X5 lq5 yq5 zq5 st5 hQ5
  subst lq5 yq5 zq5
  obtain ⟨h5, e5⟩ : ∃ z, T5.heap = z := ⟨_, rfl⟩
  rw [e5] at hQ5
  obtain ⟨rfl, N5q, he5⟩ := hQ5
  have N5 := Fr.app N0 N5q
  rw [he5] at e5
  refine go_st st5 ?_
  show Go _ _ _ _ (T5.setTop (mkF m 52 #[rv al, iv 1, iv 0, .unset] [(.int 10), (.ref al)]))
  obtain ⟨T6, h6, kc6, X6, e6, E6, A6, ov6, st6⟩ := newR X5 hx hZ hown (w232 hw) (w168 hw) e5 (g := (mkF m 52 #[rv al, iv 1, iv 0, .unset] [(.int 10), (.ref al)])) rfl (hb hby d7_52) rfl (by decide) (cap := 10) (by decide) (by decide) (by decide) (by decide)
  obtain ⟨b6, gq6⟩ : ∃ z, z = h0.size := ⟨_, rfl⟩
  rw [← gq6] at A6 st6
  have f7 : Arv Z h6 b6 kc6 (.object "java/lang/Object") (10 : Int32) [.null] .null := (Arv.new A6 (by decide)).pad (pad_rep [] .null 1)
  refine go_st (fun t k => st6 t k) ?_
  show Go _ _ _ _ (T6.setTop (mkF m 55 #[rv al, iv 1, iv 0, .unset] [(.ref b6), (.ref al)]))
  refine go_st (fun t k => XS.dupX1 X6.here hx rfl (hb hby d7_55) rfl rfl rfl k) ?_
  show Go _ _ _ _ (T6.setTop (mkF m 56 #[rv al, iv 1, iv 0, .unset] [(.ref b6), (.ref al), (.ref b6)]))
  have f8 : Fld Z h6 al cAL "elementData" "[Ljava/lang/Object;" (.ref de) := (H1.ext E6)
  have f9 : Exa Z h6 al cAL := (H0.ext E6)
  obtain ⟨T10, h10, X10, e10, W10, st10⟩ := putF X6 hx hZ hown (host := "") (Or.inl (w153 hw)) Via.refl e6 f8 f9 (Or.inl (w154 hw)) (w132 hw) (ty := (.array (.object "java/lang/Object"))) (by decide) rfl rfl (g := (mkF m 56 #[rv al, iv 1, iv 0, .unset] [(.ref b6), (.ref al), (.ref b6)])) rfl rfl (hb hby d7_56)
  have N10 := Fr.snoc X10 N5 g_al
  have f11 : Fld Z h10 al cAL "elementData" "[Ljava/lang/Object;" (.ref b6) := f8.same W10
  refine go_st (fun t k => st10 t k) ?_
  show Go _ _ _ _ (T10.setTop (mkF m 59 #[rv al, iv 1, iv 0, .unset] [(.ref b6)]))
  have g_b6 : n0 ≤ b6 := Nat.le_trans (Nat.le_trans Z0 (Nat.le_refl _)) (Nat.le_of_eq gq6.symm)
  have f12 : Exa Z h10 al cAL := (f9.wr W10)
  have f13 : Fld Z h10 al cAL "size" "I" (.int 0) := ((H2.ext E6).other W10 (Or.inr (slot_ne (Or.inl (w212 hw)) (Or.inl (w154 hw)) (by decide) (t := .int) (t' := (.array (.object "java/lang/Object"))) (by decide) (by decide))))
  have f14 : Fld Z h10 al "java/util/AbstractList" "modCount" "I" (.int 1) := ((H3.ext E6).other W10 (Or.inr (slot_ne (Or.inl (w151 hw)) (Or.inl (w154 hw)) (by decide) (t := .int) (t' := (.array (.object "java/lang/Object"))) (by decide) (by decide))))
  have nq15 : al ≠ b6 := Nat.ne_of_lt (Nat.lt_of_lt_of_le (Nat.lt_of_lt_of_le H0.lt (Nat.le_refl _)) (Nat.le_of_eq gq6.symm))
  have f16 : Arv Z h10 b6 kc6 (.object "java/lang/Object") (10 : Int32) [.null] .null := (f7.other W10 (Ne.symm nq15))
  have ke17 : Keep h0 h6 [al] := (Keep.ext (Keep.refl h0 [al]) E6)
  have ke18 : Keep h0 h10 [al] := (Keep.wr ke17 W10 (Or.inl (List.mem_of_getElem? (i := 0) rfl)))
  obtain ⟨fs, hr, hrun, hended, hW, hsame⟩ := X10.leave (v := some (.ref b6)) (fun h => by rw [Bd.returns] at h; cases h)
  refine ⟨_, _, ?_, hrun, hended, _, _, rfl, ?_, ⟨_, rfl⟩, hW, hsame.mono (by decide) (by decide)⟩
  · exact retOut X10 hx Bd.returns rfl (Or.inr (Or.inr (Or.inr (Or.inr ⟨rfl, rfl, rfl⟩)))) (hb hby d7_59) hr
  · show Q_grow1 _ _ _ _ _ _ _ T10.heap _
    rw [e10]
    exact ⟨b6, kc6, rfl, N10, ke18, g_b6, (Nat.le_of_eq gq6.symm), f12, f11, f13, f14, f16, ov6⟩
def Q_grow0 (Z : State) (al : Addr) (de : Addr) (kd : ClassId) (h0 : Heap) (n0 : Nat) (vR : Option Value) (h : Heap) (L : List Loc) : Prop := ∃ (ea : Addr) (ke : ClassId), vR = some (.ref ea) ∧ Fr n0 L ∧ Keep h0 h [al] ∧ n0 ≤ ea ∧ h0.size ≤ ea ∧ (Exa Z h al cAL) ∧ (Fld Z h al cAL "elementData" "[Ljava/lang/Object;" (.ref ea)) ∧ (Fld Z h al cAL "size" "I" (.int 0)) ∧ (Fld Z h al "java/util/AbstractList" "modCount" "I" (.int 1)) ∧ (Arv Z h ea ke (.object "java/lang/Object") (10 : Int32) [.null] .null) ∧ Ovr Z ke "java/lang/Object"
theorem ef_grow0 (m : MethodId) (x0 : Addr) : entryFrame m #[(.ref x0)] 1 = mkF m 0 #[.val (.ref x0)] [] := by first | (simp [entryFrame, mkF, argsToLocals, Value.category]; done) | rfl
set_option maxRecDepth 65536 in
set_option maxHeartbeats 40000000 in
theorem rm_grow0 (l : Launch) (Z : State) (a0 : Array Value) (hw : ∀ d ∈ tables_1, d.before a0 Z = true) (ws : List Jvm.Cond) (al : Addr) (de : Addr) (kd : ClassId) (h0 : Heap) (n0 : Nat) (Z0 : n0 ≤ h0.size) (H0 : Exa Z h0 al cAL) (H1 : Fld Z h0 al cAL "elementData" "[Ljava/lang/Object;" (.ref de)) (H2 : Fld Z h0 al cAL "size" "I" (.int 0)) (H3 : Fld Z h0 al "java/util/AbstractList" "modCount" "I" (.int 1)) (H4 : Arv Z h0 de kd (.object "java/lang/Object") (0 : Int32) [] .null) (g_al : n0 ≤ al) (DES : Sta Z Z.heap "java/util/ArrayList" "DEFAULTCAPACITY_EMPTY_ELEMENTDATA" "[Ljava/lang/Object;" (.ref de)) (zl_de : de < Z.heap.size) (O0 : Old Z n0 h0) :
    MetFree l (⟨"java/util/ArrayList", "grow", "()[Ljava/lang/Object;"⟩ : MethodName) (head1 (Jvm.Cond.code (⟨"java/util/ArrayList", "grow", "()[Ljava/lang/Object;"⟩ : MethodName) jdk_38_method_7_code 1 (some (.array (.object "java/lang/Object"))) :: ws) ({ frames := 2, cells := 1, slots := 10, locals := 29 } : Room)) (fun a U => a = #[(.ref al)] ∧ Z.Warmed39 U.vm ∧ U.heap = h0) (fun _ _ _ _ _ => True) (fun _ U o U' => ∃ v L, o = .returned v ∧ Q_grow0 Z al de kd h0 n0 v U'.heap L ∧ FrameEnd U o U' L ({ frames := 2, cells := 1, slots := 10, locals := 29 } : Room).cells ({ frames := 2, cells := 1, slots := 10, locals := 29 } : Room).slots) := by
  refine MetFree.of_bodySF (plainFor_of_name pn_java_util_ArrayList) hisR ?_
  intro p e s m args below meth c s₁ Bd hml0 hP hK
  obtain ⟨rfl, hZ, hh⟩ := hP
  have hx := Bd.exec
  have hby := Bd.bytes
  have hml : c.maxLocals = 1 := hml0
  have hown : s.vm.findClass "java/util/ArrayList" = some m.cls := findClass_of_methodNamed Bd.named
  have hnm := (name_of_methodNamed Bd.named Bd.method).1
  have X0 : Stand p l e ({ frames := 2, cells := 1, slots := 10, locals := 29 } : Room) s m #[(.ref al)] below meth c s₁ [] 0 0 := Stand.of_body Bd
  have e0 : s₁.heap = h0 := by rw [← hh, Bd.state]; rfl
  have N0 := Fr.nil n0
  refine go_st (fun t k => castTop (ef_grow0 m al) k) ?_
  show Go _ _ _ _ (s₁.setTop (mkF m 0 #[rv al] []))
  refine go_st (fun t k => XS.aloadN X0.here hx rfl (hb hby d8_0) rfl rfl k) ?_
  refine go_st (fun t k => XS.aloadN X0.here hx rfl (hb hby d8_1) rfl rfl k) ?_
  show Go _ _ _ _ (s₁.setTop (mkF m 2 #[rv al] [(.ref al), (.ref al)]))
  obtain ⟨T1, X1, e1, st1⟩ := getF X0 hx hZ hown (host := "") (Or.inl (w211 hw)) Via.refl e0 H2 (g := (mkF m 2 #[rv al] [(.ref al), (.ref al)])) rfl rfl (hb hby d8_2)
  refine go_st (fun t k => st1 t k) ?_
  refine go_st (fun t k => XS.iconst X1.here hx rfl (hb hby d8_5) k) ?_
  show Go _ _ _ _ (T1.setTop (mkF m 6 #[rv al] [(.int 1), (.int 0), (.ref al)]))
  refine go_st (fun t k => XS.iadd X1.here hx rfl (hb hby d8_6) rfl k) ?_
  rw [show ((0 : Int32) + (1 : Int32)) = (1 : Int32) from by decide]
  show Go _ _ _ _ (T1.setTop (mkF m 7 #[rv al] [(.int 1), (.ref al)]))
  obtain ⟨cq2, q2, q2'⟩ := H0.cell
  obtain ⟨_, _, ⟨T2, L2, kk2, nn2⟩, -, X2, ⟨Lc2, hQ2, lq2, yq2, zq2⟩, st2⟩ := X1.privateBack hx (y := (⟨"java/util/ArrayList", "grow", "(I)[Ljava/lang/Object;"⟩ : MethodName)) hown (mvT hZ (w223 hw)) (mvT hZ (w224 hw)) (mvT hZ (w226 hw)) (Cond.privateMethod_at (mvP hZ (w225 hw) (args := #[]))) (mvT hZ (w227 hw)) (by decide) (backOf (W := 0) (rm_grow1 l Z a0 hw [] al de kd h0 n0 (Nat.le_trans Z0 (Nat.le_refl _)) H0 H1 H2 H3 H4 g_al DES zl_de O0) hZ (w227 hw) (w133 hw) (by decide) (by decide)) (g := (mkF m 7 #[rv al] [(.int 1), (.ref al)])) rfl (by rw [hml]; rfl) (Steps.refl _) (a := al) (by rw [e1]; exact q2) q2' (argsL := [(.int 1)]) (rest := []) (lenOf pd_3 rfl) rfl (by show 2 * 0 + _ ≤ _; exact Nat.le_of_eq rfl) (hb hby d8_7) (fun _ _ => ⟨rfl, e1, (by decide : 0 + 1 ≤ _), (by decide : 0 + 10 ≤ _)⟩)
  dsimp only [Pt.U, Pt.locs, Pt.cells, Pt.slots] at X2 lq2 yq2 zq2 st2 hQ2
  subst lq2 yq2 zq2
  obtain ⟨h2, e2⟩ : ∃ z, T2.heap = z := ⟨_, rfl⟩
  rw [e2] at hQ2
  obtain ⟨ea_2, ke_2, rfl, N2q, K2, gf2_0, lf2_0, p2_1, p2_2, p2_3, p2_4, p2_5, ov2_6⟩ := hQ2
  have N2 := Fr.app N0 N2q
  refine go_tr st2 ?_
  show Go _ _ _ _ (T2.setTop (mkF m 10 #[rv al] [(.ref ea_2)]))
  have ke3 : Keep h0 h2 [al] := (Keep.trans (Keep.refl h0 [al]) K2 (allS (Or.inl (List.mem_of_getElem? (i := 0) rfl)) all0))
  obtain ⟨fs, hr, hrun, hended, hW, hsame⟩ := X2.leave (v := some (.ref ea_2)) (fun h => by rw [Bd.returns] at h; cases h)
  refine ⟨_, _, ?_, hrun, hended, _, _, rfl, ?_, ⟨_, rfl⟩, hW, hsame.mono (by decide) (by decide)⟩
  · exact retOut X2 hx Bd.returns rfl (Or.inr (Or.inr (Or.inr (Or.inr ⟨rfl, rfl, rfl⟩)))) (hb hby d8_10) hr
  · show Q_grow0 _ _ _ _ _ _ _ T2.heap _
    rw [e2]
    exact ⟨ea_2, ke_2, rfl, N2, ke3, gf2_0, lf2_0, p2_1, p2_2, p2_3, p2_4, p2_5, ov2_6⟩
def Q_add3 (Z : State) (ax : Addr) (al : Addr) (de : Addr) (kd : ClassId) (h0 : Heap) (n0 : Nat) (vR : Option Value) (h : Heap) (L : List Loc) : Prop := vR = none ∧ Fr n0 L ∧ Keep h0 h [al]
theorem ef_add3 (m : MethodId) (x0 : Addr) (x1 : Addr) (x2 : Addr) (x3 : Int32) : entryFrame m #[(.ref x0), (.ref x1), (.ref x2), (.int x3)] 4 = mkF m 0 #[.val (.ref x0), .val (.ref x1), .val (.ref x2), .val (.int x3)] [] := by first | (simp [entryFrame, mkF, argsToLocals, Value.category]; done) | rfl
set_option maxRecDepth 65536 in
set_option maxHeartbeats 40000000 in
theorem rm_add3 (l : Launch) (Z : State) (a0 : Array Value) (hw : ∀ d ∈ tables_1, d.before a0 Z = true) (ws : List Jvm.Cond) (ax : Addr) (al : Addr) (de : Addr) (kd : ClassId) (h0 : Heap) (n0 : Nat) (Z0 : n0 ≤ h0.size) (H0 : Exa Z h0 al cAL) (H1 : Fld Z h0 al cAL "elementData" "[Ljava/lang/Object;" (.ref de)) (H2 : Fld Z h0 al cAL "size" "I" (.int 0)) (H3 : Fld Z h0 al "java/util/AbstractList" "modCount" "I" (.int 1)) (H4 : Arv Z h0 de kd (.object "java/lang/Object") (0 : Int32) [] .null) (H5 : Obj Z h0 ax) (g_al : n0 ≤ al) (DES : Sta Z Z.heap "java/util/ArrayList" "DEFAULTCAPACITY_EMPTY_ELEMENTDATA" "[Ljava/lang/Object;" (.ref de)) (zl_de : de < Z.heap.size) (O0 : Old Z n0 h0) :
    MetFree l (⟨"java/util/ArrayList", "add", "(Ljava/lang/Object;[Ljava/lang/Object;I)V"⟩ : MethodName) (head1 (Jvm.Cond.code (⟨"java/util/ArrayList", "add", "(Ljava/lang/Object;[Ljava/lang/Object;I)V"⟩ : MethodName) jdk_38_method_24_code 4 none :: ws) ({ frames := 3, cells := 1, slots := 10, locals := 41 } : Room)) (fun a U => a = #[(.ref al), (.ref ax), (.ref de), (.int 0)] ∧ Z.Warmed39 U.vm ∧ U.heap = h0) (fun _ _ _ _ _ => True) (fun _ U o U' => ∃ v L, o = .returned v ∧ Q_add3 Z ax al de kd h0 n0 v U'.heap L ∧ FrameEnd U o U' L ({ frames := 3, cells := 1, slots := 10, locals := 41 } : Room).cells ({ frames := 3, cells := 1, slots := 10, locals := 41 } : Room).slots) := by
  refine MetFree.of_bodySF (plainFor_of_name pn_java_util_ArrayList) hisR ?_
  intro p e s m args below meth c s₁ Bd hml0 hP hK
  obtain ⟨rfl, hZ, hh⟩ := hP
  have hx := Bd.exec
  have hby := Bd.bytes
  have hml : c.maxLocals = 4 := hml0
  have hown : s.vm.findClass "java/util/ArrayList" = some m.cls := findClass_of_methodNamed Bd.named
  have hnm := (name_of_methodNamed Bd.named Bd.method).1
  have X0 : Stand p l e ({ frames := 3, cells := 1, slots := 10, locals := 41 } : Room) s m #[(.ref al), (.ref ax), (.ref de), (.int 0)] below meth c s₁ [] 0 0 := Stand.of_body Bd
  have e0 : s₁.heap = h0 := by rw [← hh, Bd.state]; rfl
  have N0 := Fr.nil n0
  refine go_st (fun t k => castTop (ef_add3 m al ax de (0 : Int32)) k) ?_
  show Go _ _ _ _ (s₁.setTop (mkF m 0 #[rv al, rv ax, rv de, iv 0] []))
  refine go_st (fun t k => XS.iloadN X0.here hx rfl (hb hby d9_0) rfl k) ?_
  refine go_st (fun t k => XS.aloadN X0.here hx rfl (hb hby d9_1) rfl rfl k) ?_
  show Go _ _ _ _ (s₁.setTop (mkF m 2 #[rv al, rv ax, rv de, iv 0] [(.ref de), (.int 0)]))
  obtain ⟨zc1, zA1, zq1, zS1, zN1, zH1, zG1⟩ := id H4
  refine go_st (fun t k => X0.arraylength hx (by rw [e0]; exact zA1.1) (State.isArrayOf_alike hZ.alike zA1.2.1) (g := (mkF m 2 #[rv al, rv ax, rv de, iv 0] [(.ref de), (.int 0)])) rfl rfl (hb hby d9_2) t k) ?_
  rw [len_of zS1 zN1]
  show Go _ _ _ _ (s₁.setTop (mkF m 3 #[rv al, rv ax, rv de, iv 0] [(.int 0), (.int 0)]))
  refine go_st (fun t k => XS.icmpNo X0.here hx rfl (hb hby d9_3) rfl (teq ((by decide) : (0 : Int32) = (0 : Int32))).2 k) ?_
  show Go _ _ _ _ (s₁.setTop (mkF m 6 #[rv al, rv ax, rv de, iv 0] []))
  refine go_st (fun t k => XS.aloadN X0.here hx rfl (hb hby d9_6) rfl rfl k) ?_
  show Go _ _ _ _ (s₁.setTop (mkF m 7 #[rv al, rv ax, rv de, iv 0] [(.ref al)]))
  obtain ⟨cq2, q2, q2'⟩ := H0.cell
  obtain ⟨_, _, ⟨T2, L2, kk2, nn2⟩, -, X2, ⟨Lc2, hQ2, lq2, yq2, zq2⟩, st2⟩ := X0.privateBack hx (y := (⟨"java/util/ArrayList", "grow", "()[Ljava/lang/Object;"⟩ : MethodName)) hown (mvT hZ (w218 hw)) (mvT hZ (w219 hw)) (mvT hZ (w221 hw)) (Cond.privateMethod_at (mvP hZ (w220 hw) (args := #[]))) (mvT hZ (w222 hw)) (by decide) (backOf (W := 0) (rm_grow0 l Z a0 hw [] al de kd h0 n0 (Nat.le_trans Z0 (Nat.le_refl _)) H0 H1 H2 H3 H4 g_al DES zl_de O0) hZ (w222 hw) (w133 hw) (by decide) (by decide)) (g := (mkF m 7 #[rv al, rv ax, rv de, iv 0] [(.ref al)])) rfl (by rw [hml]; rfl) (Steps.refl _) (a := al) (by rw [e0]; exact q2) q2' (argsL := []) (rest := []) (lenOf pd_4 rfl) rfl (by show 2 * 0 + _ ≤ _; exact Nat.le_of_eq rfl) (hb hby d9_7) (fun _ _ => ⟨rfl, e0, (by decide : 0 + 1 ≤ _), (by decide : 0 + 10 ≤ _)⟩)
  dsimp only [Pt.U, Pt.locs, Pt.cells, Pt.slots] at X2 lq2 yq2 zq2 st2 hQ2
  subst lq2 yq2 zq2
  obtain ⟨h2, e2⟩ : ∃ z, T2.heap = z := ⟨_, rfl⟩
  rw [e2] at hQ2
  obtain ⟨ea_2, ke_2, rfl, N2q, K2, gf2_0, lf2_0, p2_1, p2_2, p2_3, p2_4, p2_5, ov2_6⟩ := hQ2
  have N2 := Fr.app N0 N2q
  refine go_tr st2 ?_
  show Go _ _ _ _ (T2.setTop (mkF m 10 #[rv al, rv ax, rv de, iv 0] [(.ref ea_2)]))
  refine go_st (fun t k => XS.astoreN X2.here hx rfl (hb hby d9_10) rfl rfl (l' := #[rv al, rv ax, rv ea_2, iv 0]) rfl k) ?_
  refine go_st (fun t k => XS.aloadN X2.here hx rfl (hb hby d9_11) rfl rfl k) ?_
  refine go_st (fun t k => XS.iloadN X2.here hx rfl (hb hby d9_12) rfl k) ?_
  refine go_st (fun t k => XS.aloadN X2.here hx rfl (hb hby d9_13) rfl rfl k) ?_
  show Go _ _ _ _ (T2.setTop (mkF m 14 #[rv al, rv ax, rv ea_2, iv 0] [(.ref ax), (.int 0), (.ref ea_2)]))
  have f3 : Obj Z h2 ax := (H5.keep K2 )
  obtain ⟨zc4, zA4, zq4, zS4, zN4, zH4, zG4⟩ := id p2_5
  have hin4 : ¬ ((0 : Int32) < 0 ∨ zc4.slots.size ≤ ((0 : Int32)).toNatClampNeg) := inb_of zS4 ⟨by decide, by decide⟩
  obtain ⟨T4, h4, X4, e4, W4, st4⟩ := stR X2 hx hZ e2 zA4 (j := (0 : Int32)) hin4 rfl (Sto.ofV zA4 zq4 ov2_6 (Obj.ins f3)) (g := (mkF m 14 #[rv al, rv ax, rv ea_2, iv 0] [(.ref ax), (.int 0), (.ref ea_2)])) rfl rfl (hb hby d9_14)
  have N4 := Fr.snoc X4 N2 gf2_0
  have f5 : Arv Z h4 ea_2 ke_2 (.object "java/lang/Object") (10 : Int32) [(.ref ax)] .null := Arv.set zA4 zq4 zS4 zN4 zH4 zG4 rfl W4 0 rfl (Nat.le_of_ble_eq_true rfl)
  refine go_st (fun t k => st4 t k) ?_
  refine go_st (fun t k => XS.aloadN X4.here hx rfl (hb hby d9_15) rfl rfl k) ?_
  refine go_st (fun t k => XS.iloadN X4.here hx rfl (hb hby d9_16) rfl k) ?_
  refine go_st (fun t k => XS.iconst X4.here hx rfl (hb hby d9_17) k) ?_
  show Go _ _ _ _ (T4.setTop (mkF m 18 #[rv al, rv ax, rv ea_2, iv 0] [(.int 1), (.int 0), (.ref al)]))
  refine go_st (fun t k => XS.iadd X4.here hx rfl (hb hby d9_18) rfl k) ?_
  rw [show ((0 : Int32) + (1 : Int32)) = (1 : Int32) from by decide]
  show Go _ _ _ _ (T4.setTop (mkF m 19 #[rv al, rv ax, rv ea_2, iv 0] [(.int 1), (.ref al)]))
  have nq6 : al ≠ ea_2 := Nat.ne_of_lt (Nat.lt_of_lt_of_le (Nat.lt_of_lt_of_le H0.lt (Nat.le_refl _)) lf2_0)
  have f7 : Fld Z h4 al cAL "size" "I" (.int 0) := (p2_3.other W4 (Or.inl nq6))
  have f8 : Exa Z h4 al cAL := (p2_1.wr W4)
  obtain ⟨T9, h9, X9, e9, W9, st9⟩ := putF X4 hx hZ hown (host := "") (Or.inl (w211 hw)) Via.refl e4 f7 f8 (Or.inl (w212 hw)) (w132 hw) (ty := .int) (by decide) rfl rfl (g := (mkF m 19 #[rv al, rv ax, rv ea_2, iv 0] [(.int 1), (.ref al)])) rfl rfl (hb hby d9_19)
  have N9 := Fr.snoc X9 N4 g_al
  have f10 : Fld Z h9 al cAL "size" "I" (.int 1) := f7.same W9
  refine go_st (fun t k => st9 t k) ?_
  show Go _ _ _ _ (T9.setTop (mkF m 22 #[rv al, rv ax, rv ea_2, iv 0] []))
  have ke11 : Keep h0 h2 [al] := (Keep.trans (Keep.refl h0 [al]) K2 (allS (Or.inl (List.mem_of_getElem? (i := 0) rfl)) all0))
  have ke12 : Keep h0 h4 [al] := (Keep.wr ke11 W4 (Or.inr lf2_0))
  have ke13 : Keep h0 h9 [al] := (Keep.wr ke12 W9 (Or.inl (List.mem_of_getElem? (i := 0) rfl)))
  obtain ⟨fs, hr, hrun, hended, hW, hsame⟩ := X9.leave (v := none) (fun _ => rfl)
  refine ⟨_, _, ?_, hrun, hended, _, _, rfl, ?_, ⟨_, rfl⟩, hW, hsame.mono (by decide) (by decide)⟩
  · exact X9.returnOut hx Bd.returns (hb hby d9_22) hr
  · show Q_add3 _ _ _ _ _ _ _ _ T9.heap _
    rw [e9]
    exact ⟨rfl, N9, ke13⟩
def Q_add1 (Z : State) (ax : Addr) (al : Addr) (de : Addr) (kd : ClassId) (h0 : Heap) (n0 : Nat) (vR : Option Value) (h : Heap) (L : List Loc) : Prop := vR = some (.int 1) ∧ Fr n0 L ∧ Keep h0 h [al]
theorem ef_add1 (m : MethodId) (x0 : Addr) (x1 : Addr) : entryFrame m #[(.ref x0), (.ref x1)] 2 = mkF m 0 #[.val (.ref x0), .val (.ref x1)] [] := by first | (simp [entryFrame, mkF, argsToLocals, Value.category]; done) | rfl
set_option maxRecDepth 65536 in
set_option maxHeartbeats 40000000 in
theorem rm_add1 (l : Launch) (Z : State) (a0 : Array Value) (hw : ∀ d ∈ tables_1, d.before a0 Z = true) (ws : List Jvm.Cond) (ax : Addr) (al : Addr) (de : Addr) (kd : ClassId) (h0 : Heap) (n0 : Nat) (Z0 : n0 ≤ h0.size) (H0 : Exa Z h0 al cAL) (H1 : Fld Z h0 al cAL "elementData" "[Ljava/lang/Object;" (.ref de)) (H2 : Fld Z h0 al cAL "size" "I" (.int 0)) (H3 : Fld Z h0 al "java/util/AbstractList" "modCount" "I" (.int 0)) (H4 : Arv Z h0 de kd (.object "java/lang/Object") (0 : Int32) [] .null) (H5 : Obj Z h0 ax) (g_al : n0 ≤ al) (DES : Sta Z Z.heap "java/util/ArrayList" "DEFAULTCAPACITY_EMPTY_ELEMENTDATA" "[Ljava/lang/Object;" (.ref de)) (zl_de : de < Z.heap.size) (O0 : Old Z n0 h0) :
    MetFree l (⟨"java/util/ArrayList", "add", "(Ljava/lang/Object;)Z"⟩ : MethodName) (head1 (Jvm.Cond.code (⟨"java/util/ArrayList", "add", "(Ljava/lang/Object;)Z"⟩ : MethodName) jdk_38_method_25_code 2 (some .boolean) :: ws) ({ frames := 4, cells := 1, slots := 10, locals := 56 } : Room)) (fun a U => a = #[(.ref al), (.ref ax)] ∧ Z.Warmed39 U.vm ∧ U.heap = h0) (fun _ _ _ _ _ => True) (fun _ U o U' => ∃ v L, o = .returned v ∧ Q_add1 Z ax al de kd h0 n0 v U'.heap L ∧ FrameEnd U o U' L ({ frames := 4, cells := 1, slots := 10, locals := 56 } : Room).cells ({ frames := 4, cells := 1, slots := 10, locals := 56 } : Room).slots) := by
  refine MetFree.of_bodySF (plainFor_of_name pn_java_util_ArrayList) hisR ?_
  intro p e s m args below meth c s₁ Bd hml0 hP hK
  obtain ⟨rfl, hZ, hh⟩ := hP
  have hx := Bd.exec
  have hby := Bd.bytes
  have hml : c.maxLocals = 2 := hml0
  have hown : s.vm.findClass "java/util/ArrayList" = some m.cls := findClass_of_methodNamed Bd.named
  have hnm := (name_of_methodNamed Bd.named Bd.method).1
  have X0 : Stand p l e ({ frames := 4, cells := 1, slots := 10, locals := 56 } : Room) s m #[(.ref al), (.ref ax)] below meth c s₁ [] 0 0 := Stand.of_body Bd
  have e0 : s₁.heap = h0 := by rw [← hh, Bd.state]; rfl
  have N0 := Fr.nil n0
  refine go_st (fun t k => castTop (ef_add1 m al ax) k) ?_
  show Go _ _ _ _ (s₁.setTop (mkF m 0 #[rv al, rv ax] []))
  refine go_st (fun t k => XS.aloadN X0.here hx rfl (hb hby d10_0) rfl rfl k) ?_
  refine go_st (fun t k => XS.dup X0.here hx rfl (hb hby d10_1) rfl rfl k) ?_
  show Go _ _ _ _ (s₁.setTop (mkF m 2 #[rv al, rv ax] [(.ref al), (.ref al)]))
  obtain ⟨T1, X1, e1, st1⟩ := getF X0 hx hZ hown (host := "") (Or.inl (w209 hw)) (Via.of (w210 hw)) e0 H3 (g := (mkF m 2 #[rv al, rv ax] [(.ref al), (.ref al)])) rfl rfl (hb hby d10_2)
  refine go_st (fun t k => st1 t k) ?_
  refine go_st (fun t k => XS.iconst X1.here hx rfl (hb hby d10_5) k) ?_
  show Go _ _ _ _ (T1.setTop (mkF m 6 #[rv al, rv ax] [(.int 1), (.int 0), (.ref al)]))
  refine go_st (fun t k => XS.iadd X1.here hx rfl (hb hby d10_6) rfl k) ?_
  rw [show ((0 : Int32) + (1 : Int32)) = (1 : Int32) from by decide]
  show Go _ _ _ _ (T1.setTop (mkF m 7 #[rv al, rv ax] [(.int 1), (.ref al)]))
  obtain ⟨T2, h2, X2, e2, W2, st2⟩ := putF X1 hx hZ hown (host := "") (Or.inl (w209 hw)) (Via.of (w210 hw)) e1 H3 H0 (Or.inl (w151 hw)) (w132 hw) (ty := .int) (by decide) rfl rfl (g := (mkF m 7 #[rv al, rv ax] [(.int 1), (.ref al)])) rfl rfl (hb hby d10_7)
  have N2 := Fr.snoc X2 N0 g_al
  have f3 : Fld Z h2 al "java/util/AbstractList" "modCount" "I" (.int 1) := H3.same W2
  refine go_st (fun t k => st2 t k) ?_
  refine go_st (fun t k => XS.aloadN X2.here hx rfl (hb hby d10_10) rfl rfl k) ?_
  refine go_st (fun t k => XS.aloadN X2.here hx rfl (hb hby d10_11) rfl rfl k) ?_
  refine go_st (fun t k => XS.aloadN X2.here hx rfl (hb hby d10_12) rfl rfl k) ?_
  show Go _ _ _ _ (T2.setTop (mkF m 13 #[rv al, rv ax] [(.ref al), (.ref ax), (.ref al)]))
  have f4 : Fld Z h2 al cAL "elementData" "[Ljava/lang/Object;" (.ref de) := (H1.other W2 (Or.inr (slot_ne (Or.inl (w154 hw)) (Or.inl (w151 hw)) (by decide) (t := (.array (.object "java/lang/Object"))) (t' := .int) (by decide) (by decide))))
  obtain ⟨T5, X5, e5, st5⟩ := getF X2 hx hZ hown (host := "") (Or.inl (w153 hw)) Via.refl e2 f4 (g := (mkF m 13 #[rv al, rv ax] [(.ref al), (.ref ax), (.ref al)])) rfl rfl (hb hby d10_13)
  refine go_st (fun t k => st5 t k) ?_
  refine go_st (fun t k => XS.aloadN X5.here hx rfl (hb hby d10_16) rfl rfl k) ?_
  show Go _ _ _ _ (T5.setTop (mkF m 17 #[rv al, rv ax] [(.ref al), (.ref de), (.ref ax), (.ref al)]))
  have f6 : Fld Z h2 al cAL "size" "I" (.int 0) := (H2.other W2 (Or.inr (slot_ne (Or.inl (w212 hw)) (Or.inl (w151 hw)) (by decide) (t := .int) (t' := .int) (by decide) (by decide))))
  obtain ⟨T7, X7, e7, st7⟩ := getF X5 hx hZ hown (host := "") (Or.inl (w211 hw)) Via.refl e5 f6 (g := (mkF m 17 #[rv al, rv ax] [(.ref al), (.ref de), (.ref ax), (.ref al)])) rfl rfl (hb hby d10_17)
  refine go_st (fun t k => st7 t k) ?_
  show Go _ _ _ _ (T7.setTop (mkF m 20 #[rv al, rv ax] [(.int 0), (.ref de), (.ref ax), (.ref al)]))
  have f8 : Exa Z h2 al cAL := (H0.wr W2)
  have nq9 : de ≠ al := Old.ne O0 zl_de g_al
  have f10 : Arv Z h2 de kd (.object "java/lang/Object") (0 : Int32) [] .null := (H4.other W2 nq9)
  have f11 : Obj Z h2 ax := (H5.wr W2 )
  have oe12 : Old Z n0 h2 := (Old.wr O0 W2 g_al)
  obtain ⟨cq13, q13, q13'⟩ := f8.cell
  obtain ⟨_, _, ⟨T13, L13, kk13, nn13⟩, -, X13, ⟨Lc13, hQ13, lq13, yq13, zq13⟩, st13⟩ := X7.privateBack hx (y := (⟨"java/util/ArrayList", "add", "(Ljava/lang/Object;[Ljava/lang/Object;I)V"⟩ : MethodName)) hown (mvT hZ (w213 hw)) (mvT hZ (w214 hw)) (mvT hZ (w216 hw)) (Cond.privateMethod_at (mvP hZ (w215 hw) (args := #[]))) (mvT hZ (w217 hw)) (by decide) (backOf (W := 0) (rm_add3 l Z a0 hw [] ax al de kd h2 n0 (Nat.le_trans Z0 (Nat.le_of_eq W2.size.symm)) f8 f4 f6 f3 f10 f11 g_al DES zl_de oe12) hZ (w217 hw) (w133 hw) (by decide) (by decide)) (g := (mkF m 20 #[rv al, rv ax] [(.int 0), (.ref de), (.ref ax), (.ref al)])) rfl (by rw [hml]; rfl) (Steps.refl _) (a := al) (by rw [e7]; exact q13) q13' (argsL := [(.ref ax), (.ref de), (.int 0)]) (rest := []) (lenOf pd_5 rfl) rfl (by show 2 * 0 + _ ≤ _; exact Nat.le_of_eq rfl) (hb hby d10_20) (fun _ _ => ⟨rfl, e7, (by decide : 0 + 1 ≤ _), (by decide : 0 + 10 ≤ _)⟩)
  dsimp only [Pt.U, Pt.locs, Pt.cells, Pt.slots] at X13 lq13 yq13 zq13 st13 hQ13
  subst lq13 yq13 zq13
  obtain ⟨h13, e13⟩ : ∃ z, T13.heap = z := ⟨_, rfl⟩
  rw [e13] at hQ13
  obtain ⟨rfl, N13q, K13⟩ := hQ13
  have N13 := Fr.app N2 N13q
  refine go_tr st13 ?_
  show Go _ _ _ _ (T13.setTop (mkF m 23 #[rv al, rv ax] []))
  refine go_st (fun t k => XS.iconst X13.here hx rfl (hb hby d10_23) k) ?_
  show Go _ _ _ _ (T13.setTop (mkF m 24 #[rv al, rv ax] [(.int 1)]))
  have ke14 : Keep h0 h2 [al] := (Keep.wr (Keep.refl h0 [al]) W2 (Or.inl (List.mem_of_getElem? (i := 0) rfl)))
  have ke15 : Keep h0 h13 [al] := (Keep.trans ke14 K13 (allS (Or.inl (List.mem_of_getElem? (i := 0) rfl)) all0))
  obtain ⟨fs, hr, hrun, hended, hW, hsame⟩ := X13.leave (v := some (.int 1)) (fun h => by rw [Bd.returns] at h; cases h)
  refine ⟨_, _, ?_, hrun, hended, _, _, rfl, ?_, ⟨_, rfl⟩, hW, hsame.mono (by decide) (by decide)⟩
  · exact retN X13 hx (t := .boolean) Bd.returns (by simp) (hb hby d10_24) hr
  · show Q_add1 _ _ _ _ _ _ _ _ T13.heap _
    rw [e13]
    exact ⟨rfl, N13, ke15⟩
def Q_trinit (Z : State) (tr : Addr) (de : Addr) (h0 : Heap) (n0 : Nat) (vR : Option Value) (h : Heap) (L : List Loc) : Prop := ∃ (lu : Addr) (lc : Addr) (dq : Addr), vR = none ∧ Fr n0 L ∧ Keep h0 h [tr] ∧ n0 ≤ lu ∧ h0.size ≤ lu ∧ n0 ≤ lc ∧ h0.size ≤ lc ∧ lu ≠ lc ∧ (Exa Z h tr cTR) ∧ (Fld Z h tr cTR "undos" "Ljava/util/List;" (.ref lu)) ∧ (Fld Z h tr cTR "changed" "Ljava/util/List;" (.ref lc)) ∧ (Fld Z h tr cTR "workStack" "Ljava/util/Deque;" (.ref dq)) ∧ (Exa Z h lu cAL) ∧ (Fld Z h lu cAL "elementData" "[Ljava/lang/Object;" (.ref de)) ∧ (Fld Z h lu cAL "size" "I" (.int 0)) ∧ (Fld Z h lu "java/util/AbstractList" "modCount" "I" (.int 0)) ∧ (Exa Z h lc cAL) ∧ (Fld Z h lc cAL "elementData" "[Ljava/lang/Object;" (.ref de)) ∧ (Fld Z h lc cAL "size" "I" (.int 0)) ∧ (Fld Z h lc "java/util/AbstractList" "modCount" "I" (.int 0))
theorem ef_trinit (m : MethodId) (x0 : Addr) : entryFrame m #[(.ref x0)] 1 = mkF m 0 #[.val (.ref x0)] [] := by first | (simp [entryFrame, mkF, argsToLocals, Value.category]; done) | rfl
set_option maxRecDepth 65536 in
set_option maxHeartbeats 40000000 in
theorem rm_trinit (l : Launch) (Z : State) (a0 : Array Value) (hw : ∀ d ∈ tables_1, d.before a0 Z = true) (ws : List Jvm.Cond) (tr : Addr) (de : Addr) (h0 : Heap) (n0 : Nat) (Z0 : n0 ≤ h0.size) (H0 : Exa Z h0 tr cTR) (H1 : Fld Z h0 tr cTR "undos" "Ljava/util/List;" .null) (H2 : Fld Z h0 tr cTR "changed" "Ljava/util/List;" .null) (H3 : Fld Z h0 tr cTR "workStack" "Ljava/util/Deque;" .null) (g_tr : n0 ≤ tr) (DES : Sta Z Z.heap "java/util/ArrayList" "DEFAULTCAPACITY_EMPTY_ELEMENTDATA" "[Ljava/lang/Object;" (.ref de)) (zl_de : de < Z.heap.size) (O0 : Old Z n0 h0) :
    MetFree l (⟨"com/example/adjoinery/adjoinery/Trail", "<init>", "()V"⟩ : MethodName) (head1 (Jvm.Cond.code (⟨"com/example/adjoinery/adjoinery/Trail", "<init>", "()V"⟩ : MethodName) prog_65_method_1_code 1 none :: ws) ({ frames := 4, cells := 4, slots := 26, locals := 50 } : Room)) (fun a U => a = #[(.ref tr)] ∧ Z.Warmed39 U.vm ∧ U.heap = h0) (fun _ _ _ _ _ => True) (fun _ U o U' => ∃ v L, o = .returned v ∧ Q_trinit Z tr de h0 n0 v U'.heap L ∧ FrameEnd U o U' L ({ frames := 4, cells := 4, slots := 26, locals := 50 } : Room).cells ({ frames := 4, cells := 4, slots := 26, locals := 50 } : Room).slots) := by
  refine MetFree.of_bodySF (plainFor_of_name pn_com_example_adjoinery_adjoinery_Trail) hisR ?_
  intro p e s m args below meth c s₁ Bd hml0 hP hK
  obtain ⟨rfl, hZ, hh⟩ := hP
  have hx := Bd.exec
  have hby := Bd.bytes
  have hml : c.maxLocals = 1 := hml0
  have hown : s.vm.findClass "com/example/adjoinery/adjoinery/Trail" = some m.cls := findClass_of_methodNamed Bd.named
  have hnm := (name_of_methodNamed Bd.named Bd.method).1
  have X0 : Stand p l e ({ frames := 4, cells := 4, slots := 26, locals := 50 } : Room) s m #[(.ref tr)] below meth c s₁ [] 0 0 := Stand.of_body Bd
  have e0 : s₁.heap = h0 := by rw [← hh, Bd.state]; rfl
  have N0 := Fr.nil n0
  refine go_st (fun t k => castTop (ef_trinit m tr) k) ?_
  show Go _ _ _ _ (s₁.setTop (mkF m 0 #[rv tr] []))
  refine go_st (fun t k => XS.aloadN X0.here hx rfl (hb hby d11_0) rfl rfl k) ?_
  show Go _ _ _ _ (s₁.setTop (mkF m 1 #[rv tr] [(.ref tr)]))
  obtain ⟨T1, X1, e1, st1⟩ := initO X0 hx hZ hown (w130 hw) (w13 hw) (w14 hw) e0 (g := (mkF m 1 #[rv tr] [(.ref tr)])) rfl (by rw [hml]; rfl) rfl (hb hby d11_1) (by decide) (W := 0) (by show 2 * 0 + _ ≤ _; exact Nat.le_of_eq rfl) (by decide)
  refine go_st (fun t k => st1 t k) ?_
  refine go_st (fun t k => XS.aloadN X1.here hx rfl (hb hby d11_4) rfl rfl k) ?_
  show Go _ _ _ _ (T1.setTop (mkF m 5 #[rv tr] [(.ref tr)]))
  obtain ⟨T2, h2, X2, e2, E2, A2, D2, -, st2⟩ := newO X1 hx hZ hown (w131 hw) (w132 hw) (w133 hw) e1 (g := (mkF m 5 #[rv tr] [(.ref tr)])) rfl (hb hby d11_5) (by decide) (by decide)
  obtain ⟨b2, gq2⟩ : ∃ z, z = h0.size := ⟨_, rfl⟩
  rw [← gq2] at A2 D2 st2
  have f3 : Fld Z h2 b2 "java/util/AbstractList" "modCount" "I" (.int 0) := D2 (Or.inl (w151 hw)) (ty := .int) (by decide)
  have f4 : Fld Z h2 b2 cAL "elementData" "[Ljava/lang/Object;" .null := D2 (Or.inl (w154 hw)) (ty := (.array (.object "java/lang/Object"))) (by decide)
  have f5 : Fld Z h2 b2 cAL "size" "I" (.int 0) := D2 (Or.inl (w212 hw)) (ty := .int) (by decide)
  refine go_st (fun t k => st2 t k) ?_
  refine go_st (fun t k => XS.dup X2.here hx rfl (hb hby d11_8) rfl rfl k) ?_
  show Go _ _ _ _ (T2.setTop (mkF m 9 #[rv tr] [(.ref b2), (.ref b2), (.ref tr)]))
  have g_b2 : n0 ≤ b2 := Nat.le_trans (Nat.le_trans Z0 (Nat.le_refl _)) (Nat.le_of_eq gq2.symm)
  have oe6 : Old Z n0 h2 := (Old.ext O0 E2)
  obtain ⟨_, _, ⟨T7, L7, kk7, nn7⟩, -, X7, ⟨Lc7, hQ7, lq7, yq7, zq7⟩, st7⟩ := X2.specialBack hx (y := (⟨"java/util/ArrayList", "<init>", "()V"⟩ : MethodName)) rfl hown (mvT hZ (w134 hw)) (mvT hZ (w135 hw)) (mvT hZ (w136 hw)) (by decide) (backOf (W := 2) (rm_alinit l Z a0 hw [] b2 de h2 n0 (Nat.le_trans Z0 E2.1) A2 f4 f5 f3 g_b2 DES zl_de oe6) hZ (w136 hw) (w133 hw) (by decide) (by decide)) (g := (mkF m 9 #[rv tr] [(.ref b2), (.ref b2), (.ref tr)])) rfl (by rw [hml]; rfl) (Steps.refl _) (a := b2) (argsL := []) (rest := [(.ref b2), (.ref tr)]) (lenOf pd_1 rfl) rfl (by show 2 * 0 + _ ≤ _; exact Nat.le_of_eq rfl) (hb hby d11_9) (fun _ _ => ⟨rfl, e2, (by decide : 1 + 0 ≤ _), (by decide : 3 + 0 ≤ _)⟩)
  dsimp only [Pt.U, Pt.locs, Pt.cells, Pt.slots] at X7 lq7 yq7 zq7 st7 hQ7
  subst lq7 yq7 zq7
  obtain ⟨h7, e7⟩ : ∃ z, T7.heap = z := ⟨_, rfl⟩
  rw [e7] at hQ7
  obtain ⟨rfl, N7q, K7, p7_0, p7_1, p7_2, p7_3⟩ := hQ7
  have N7 := Fr.app N0 N7q
  refine go_tr st7 ?_
  show Go _ _ _ _ (T7.setTop (mkF m 12 #[rv tr] [(.ref b2), (.ref tr)]))
  have nq8 : tr ≠ b2 := Nat.ne_of_lt (Nat.lt_of_lt_of_le (Nat.lt_of_lt_of_le H0.lt (Nat.le_refl _)) (Nat.le_of_eq gq2.symm))
  have f9 : Fld Z h7 tr cTR "undos" "Ljava/util/List;" .null := ((H1.ext E2).keep K7 (ninS nq8 nin0))
  have f10 : Exa Z h7 tr cTR := ((H0.ext E2).keep K7)
  obtain ⟨T11, h11, X11, e11, W11, st11⟩ := putF X7 hx hZ hown (host := "") (Or.inl (w155 hw)) Via.refl e7 f9 f10 (Or.inr ⟨(w156 hw), rfl, hnm⟩) (w125 hw) (ty := (.object "java/util/List")) (by decide) rfl rfl (g := (mkF m 12 #[rv tr] [(.ref b2), (.ref tr)])) rfl rfl (hb hby d11_12)
  have N11 := Fr.snoc X11 N7 g_tr
  have f12 : Fld Z h11 tr cTR "undos" "Ljava/util/List;" (.ref b2) := f9.same W11
  refine go_st (fun t k => st11 t k) ?_
  refine go_st (fun t k => XS.aloadN X11.here hx rfl (hb hby d11_15) rfl rfl k) ?_
  show Go _ _ _ _ (T11.setTop (mkF m 16 #[rv tr] [(.ref tr)]))
  obtain ⟨T13, h13, X13, e13, E13, A13, D13, -, st13⟩ := newO X11 hx hZ hown (w131 hw) (w132 hw) (w133 hw) e11 (g := (mkF m 16 #[rv tr] [(.ref tr)])) rfl (hb hby d11_16) (by decide) (by decide)
  obtain ⟨b13, gq13⟩ : ∃ z, z = h11.size := ⟨_, rfl⟩
  rw [← gq13] at A13 D13 st13
  have f14 : Fld Z h13 b13 "java/util/AbstractList" "modCount" "I" (.int 0) := D13 (Or.inl (w151 hw)) (ty := .int) (by decide)
  have f15 : Fld Z h13 b13 cAL "elementData" "[Ljava/lang/Object;" .null := D13 (Or.inl (w154 hw)) (ty := (.array (.object "java/lang/Object"))) (by decide)
  have f16 : Fld Z h13 b13 cAL "size" "I" (.int 0) := D13 (Or.inl (w212 hw)) (ty := .int) (by decide)
  refine go_st (fun t k => st13 t k) ?_
  refine go_st (fun t k => XS.dup X13.here hx rfl (hb hby d11_19) rfl rfl k) ?_
  show Go _ _ _ _ (T13.setTop (mkF m 20 #[rv tr] [(.ref b13), (.ref b13), (.ref tr)]))
  have sz17 : h0.size ≤ h7.size := (Nat.le_trans E2.1 K7.1)
  have sz18 : h0.size ≤ h11.size := (Nat.le_trans sz17 (Nat.le_of_eq W11.size.symm))
  have g_b13 : n0 ≤ b13 := Nat.le_trans (Nat.le_trans Z0 sz18) (Nat.le_of_eq gq13.symm)
  have oe19 : Old Z n0 h7 := (Old.keep oe6 K7 (allS g_b2 all0))
  have oe20 : Old Z n0 h11 := (Old.wr oe19 W11 g_tr)
  have oe21 : Old Z n0 h13 := (Old.ext oe20 E13)
  have sz22 : h0.size ≤ h13.size := (Nat.le_trans sz18 E13.1)
  obtain ⟨_, _, ⟨T23, L23, kk23, nn23⟩, -, X23, ⟨Lc23, hQ23, lq23, yq23, zq23⟩, st23⟩ := X13.specialBack hx (y := (⟨"java/util/ArrayList", "<init>", "()V"⟩ : MethodName)) rfl hown (mvT hZ (w134 hw)) (mvT hZ (w135 hw)) (mvT hZ (w136 hw)) (by decide) (backOf (W := 2) (rm_alinit l Z a0 hw [] b13 de h13 n0 (Nat.le_trans Z0 sz22) A13 f15 f16 f14 g_b13 DES zl_de oe21) hZ (w136 hw) (w133 hw) (by decide) (by decide)) (g := (mkF m 20 #[rv tr] [(.ref b13), (.ref b13), (.ref tr)])) rfl (by rw [hml]; rfl) (Steps.refl _) (a := b13) (argsL := []) (rest := [(.ref b13), (.ref tr)]) (lenOf pd_1 rfl) rfl (by show 2 * 0 + _ ≤ _; exact Nat.le_of_eq rfl) (hb hby d11_20) (fun _ _ => ⟨rfl, e13, (by decide : 2 + 0 ≤ _), (by decide : 6 + 0 ≤ _)⟩)
  dsimp only [Pt.U, Pt.locs, Pt.cells, Pt.slots] at X23 lq23 yq23 zq23 st23 hQ23
  subst lq23 yq23 zq23
  obtain ⟨h23, e23⟩ : ∃ z, T23.heap = z := ⟨_, rfl⟩
  rw [e23] at hQ23
  obtain ⟨rfl, N23q, K23, p23_0, p23_1, p23_2, p23_3⟩ := hQ23
  have N23 := Fr.app N11 N23q
  refine go_tr st23 ?_
  show Go _ _ _ _ (T23.setTop (mkF m 23 #[rv tr] [(.ref b13), (.ref tr)]))
  have nq24 : tr ≠ b13 := Nat.ne_of_lt (Nat.lt_of_lt_of_le (Nat.lt_of_lt_of_le H0.lt sz18) (Nat.le_of_eq gq13.symm))
  have f25 : Fld Z h23 tr cTR "changed" "Ljava/util/List;" .null := (((((H2.ext E2).keep K7 (ninS nq8 nin0)).other W11 (Or.inr (slot_ne (Or.inr (w158 hw)) (Or.inr (w156 hw)) (by decide) (t := (.object "java/util/List")) (t' := (.object "java/util/List")) (by decide) (by decide)))).ext E13).keep K23 (ninS nq24 nin0))
  have f26 : Exa Z h23 tr cTR := (((f10.wr W11).ext E13).keep K23)
  obtain ⟨T27, h27, X27, e27, W27, st27⟩ := putF X23 hx hZ hown (host := "") (Or.inl (w157 hw)) Via.refl e23 f25 f26 (Or.inr ⟨(w158 hw), rfl, hnm⟩) (w125 hw) (ty := (.object "java/util/List")) (by decide) rfl rfl (g := (mkF m 23 #[rv tr] [(.ref b13), (.ref tr)])) rfl rfl (hb hby d11_23)
  have N27 := Fr.snoc X27 N23 g_tr
  have f28 : Fld Z h27 tr cTR "changed" "Ljava/util/List;" (.ref b13) := f25.same W27
  refine go_st (fun t k => st27 t k) ?_
  refine go_st (fun t k => XS.aloadN X27.here hx rfl (hb hby d11_26) rfl rfl k) ?_
  show Go _ _ _ _ (T27.setTop (mkF m 27 #[rv tr] [(.ref tr)]))
  obtain ⟨T29, h29, X29, e29, E29, A29, D29, -, st29⟩ := newO X27 hx hZ hown (w159 hw) (w160 hw) (w161 hw) e27 (g := (mkF m 27 #[rv tr] [(.ref tr)])) rfl (hb hby d11_27) (by decide) (by decide)
  obtain ⟨b29, gq29⟩ : ∃ z, z = h27.size := ⟨_, rfl⟩
  rw [← gq29] at A29 D29 st29
  have f30 : Fld Z h29 b29 "java/util/ArrayDeque" "elements" "[Ljava/lang/Object;" .null := D29 (Or.inl (w170 hw)) (ty := (.array (.object "java/lang/Object"))) (by decide)
  refine go_st (fun t k => st29 t k) ?_
  refine go_st (fun t k => XS.dup X29.here hx rfl (hb hby d11_30) rfl rfl k) ?_
  show Go _ _ _ _ (T29.setTop (mkF m 31 #[rv tr] [(.ref b29), (.ref b29), (.ref tr)]))
  have sz31 : h0.size ≤ h23.size := (Nat.le_trans sz22 K23.1)
  have sz32 : h0.size ≤ h27.size := (Nat.le_trans sz31 (Nat.le_of_eq W27.size.symm))
  have g_b29 : n0 ≤ b29 := Nat.le_trans (Nat.le_trans Z0 sz32) (Nat.le_of_eq gq29.symm)
  have sz33 : h0.size ≤ h29.size := (Nat.le_trans sz32 E29.1)
  obtain ⟨_, _, ⟨T34, L34, kk34, nn34⟩, -, X34, ⟨Lc34, hQ34, lq34, yq34, zq34⟩, st34⟩ := X29.specialBack hx (y := (⟨"java/util/ArrayDeque", "<init>", "()V"⟩ : MethodName)) rfl hown (mvT hZ (w162 hw)) (mvT hZ (w163 hw)) (mvT hZ (w164 hw)) (by decide) (backOf (W := 2) (rm_adinit l Z a0 hw [] b29 h29 n0 (Nat.le_trans Z0 sz33) A29 f30 g_b29) hZ (w164 hw) (w161 hw) (by decide) (by decide)) (g := (mkF m 31 #[rv tr] [(.ref b29), (.ref b29), (.ref tr)])) rfl (by rw [hml]; rfl) (Steps.refl _) (a := b29) (argsL := []) (rest := [(.ref b29), (.ref tr)]) (lenOf pd_1 rfl) rfl (by show 2 * 0 + _ ≤ _; exact Nat.le_of_eq rfl) (hb hby d11_31) (fun _ _ => ⟨rfl, e29, (by decide : 3 + 1 ≤ _), (by decide : 9 + 17 ≤ _)⟩)
  dsimp only [Pt.U, Pt.locs, Pt.cells, Pt.slots] at X34 lq34 yq34 zq34 st34 hQ34
  subst lq34 yq34 zq34
  obtain ⟨h34, e34⟩ : ∃ z, T34.heap = z := ⟨_, rfl⟩
  rw [e34] at hQ34
  obtain ⟨rfl, N34q, K34, p34_0⟩ := hQ34
  have N34 := Fr.app N27 N34q
  refine go_tr st34 ?_
  show Go _ _ _ _ (T34.setTop (mkF m 34 #[rv tr] [(.ref b29), (.ref tr)]))
  have nq35 : tr ≠ b29 := Nat.ne_of_lt (Nat.lt_of_lt_of_le (Nat.lt_of_lt_of_le H0.lt sz32) (Nat.le_of_eq gq29.symm))
  have f36 : Fld Z h34 tr cTR "workStack" "Ljava/util/Deque;" .null := ((((((((H3.ext E2).keep K7 (ninS nq8 nin0)).other W11 (Or.inr (slot_ne (Or.inr (w172 hw)) (Or.inr (w156 hw)) (by decide) (t := (.object "java/util/Deque")) (t' := (.object "java/util/List")) (by decide) (by decide)))).ext E13).keep K23 (ninS nq24 nin0)).other W27 (Or.inr (slot_ne (Or.inr (w172 hw)) (Or.inr (w158 hw)) (by decide) (t := (.object "java/util/Deque")) (t' := (.object "java/util/List")) (by decide) (by decide)))).ext E29).keep K34 (ninS nq35 nin0))
  have f37 : Exa Z h34 tr cTR := (((f26.wr W27).ext E29).keep K34)
  obtain ⟨T38, h38, X38, e38, W38, st38⟩ := putF X34 hx hZ hown (host := "") (Or.inl (w171 hw)) Via.refl e34 f36 f37 (Or.inr ⟨(w172 hw), rfl, hnm⟩) (w125 hw) (ty := (.object "java/util/Deque")) (by decide) rfl rfl (g := (mkF m 34 #[rv tr] [(.ref b29), (.ref tr)])) rfl rfl (hb hby d11_34)
  have N38 := Fr.snoc X38 N34 g_tr
  have f39 : Fld Z h38 tr cTR "workStack" "Ljava/util/Deque;" (.ref b29) := f36.same W38
  refine go_st (fun t k => st38 t k) ?_
  show Go _ _ _ _ (T38.setTop (mkF m 37 #[rv tr] []))
  have sz40 : h2.size ≤ h11.size := (Nat.le_trans K7.1 (Nat.le_of_eq W11.size.symm))
  have nq41 : b2 ≠ b13 := Nat.ne_of_lt (Nat.lt_of_lt_of_le (Nat.lt_of_lt_of_le A2.lt sz40) (Nat.le_of_eq gq13.symm))
  have f42 : Exa Z h38 tr cTR := (f37.wr W38)
  have f43 : Fld Z h38 tr cTR "undos" "Ljava/util/List;" (.ref b2) := ((((((f12.ext E13).keep K23 (ninS nq24 nin0)).other W27 (Or.inr (slot_ne (Or.inr (w156 hw)) (Or.inr (w158 hw)) (by decide) (t := (.object "java/util/List")) (t' := (.object "java/util/List")) (by decide) (by decide)))).ext E29).keep K34 (ninS nq35 nin0)).other W38 (Or.inr (slot_ne (Or.inr (w156 hw)) (Or.inr (w172 hw)) (by decide) (t := (.object "java/util/List")) (t' := (.object "java/util/Deque")) (by decide) (by decide))))
  have f44 : Fld Z h38 tr cTR "changed" "Ljava/util/List;" (.ref b13) := (((f28.ext E29).keep K34 (ninS nq35 nin0)).other W38 (Or.inr (slot_ne (Or.inr (w158 hw)) (Or.inr (w172 hw)) (by decide) (t := (.object "java/util/List")) (t' := (.object "java/util/Deque")) (by decide) (by decide))))
  have f45 : Exa Z h38 b2 cAL := (((((((p7_0.wr W11).ext E13).keep K23).wr W27).ext E29).keep K34).wr W38)
  have sz46 : h2.size ≤ h13.size := (Nat.le_trans sz40 E13.1)
  have sz47 : h2.size ≤ h23.size := (Nat.le_trans sz46 K23.1)
  have sz48 : h2.size ≤ h27.size := (Nat.le_trans sz47 (Nat.le_of_eq W27.size.symm))
  have nq49 : b2 ≠ b29 := Nat.ne_of_lt (Nat.lt_of_lt_of_le (Nat.lt_of_lt_of_le A2.lt sz48) (Nat.le_of_eq gq29.symm))
  have f50 : Fld Z h38 b2 cAL "elementData" "[Ljava/lang/Object;" (.ref de) := (((((((p7_1.other W11 (Or.inl (Ne.symm nq8))).ext E13).keep K23 (ninS nq41 nin0)).other W27 (Or.inl (Ne.symm nq8))).ext E29).keep K34 (ninS nq49 nin0)).other W38 (Or.inl (Ne.symm nq8)))
  have f51 : Fld Z h38 b2 cAL "size" "I" (.int 0) := (((((((p7_2.other W11 (Or.inl (Ne.symm nq8))).ext E13).keep K23 (ninS nq41 nin0)).other W27 (Or.inl (Ne.symm nq8))).ext E29).keep K34 (ninS nq49 nin0)).other W38 (Or.inl (Ne.symm nq8)))
  have f52 : Fld Z h38 b2 "java/util/AbstractList" "modCount" "I" (.int 0) := (((((((p7_3.other W11 (Or.inl (Ne.symm nq8))).ext E13).keep K23 (ninS nq41 nin0)).other W27 (Or.inl (Ne.symm nq8))).ext E29).keep K34 (ninS nq49 nin0)).other W38 (Or.inl (Ne.symm nq8)))
  have f53 : Exa Z h38 b13 cAL := ((((p23_0.wr W27).ext E29).keep K34).wr W38)
  have sz54 : h13.size ≤ h27.size := (Nat.le_trans K23.1 (Nat.le_of_eq W27.size.symm))
  have nq55 : b13 ≠ b29 := Nat.ne_of_lt (Nat.lt_of_lt_of_le (Nat.lt_of_lt_of_le A13.lt sz54) (Nat.le_of_eq gq29.symm))
  have f56 : Fld Z h38 b13 cAL "elementData" "[Ljava/lang/Object;" (.ref de) := ((((p23_1.other W27 (Or.inl (Ne.symm nq24))).ext E29).keep K34 (ninS nq55 nin0)).other W38 (Or.inl (Ne.symm nq24)))
  have f57 : Fld Z h38 b13 cAL "size" "I" (.int 0) := ((((p23_2.other W27 (Or.inl (Ne.symm nq24))).ext E29).keep K34 (ninS nq55 nin0)).other W38 (Or.inl (Ne.symm nq24)))
  have f58 : Fld Z h38 b13 "java/util/AbstractList" "modCount" "I" (.int 0) := ((((p23_3.other W27 (Or.inl (Ne.symm nq24))).ext E29).keep K34 (ninS nq55 nin0)).other W38 (Or.inl (Ne.symm nq24)))
  have ke59 : Keep h0 h2 [tr] := (Keep.ext (Keep.refl h0 [tr]) E2)
  have ke60 : Keep h0 h7 [tr] := (Keep.trans ke59 K7 (allS (Or.inr (Nat.le_of_eq gq2.symm)) all0))
  have ke61 : Keep h0 h11 [tr] := (Keep.wr ke60 W11 (Or.inl (List.mem_of_getElem? (i := 0) rfl)))
  have ke62 : Keep h0 h13 [tr] := (Keep.ext ke61 E13)
  have ke63 : Keep h0 h23 [tr] := (Keep.trans ke62 K23 (allS (Or.inr (Nat.le_trans sz18 (Nat.le_of_eq gq13.symm))) all0))
  have ke64 : Keep h0 h27 [tr] := (Keep.wr ke63 W27 (Or.inl (List.mem_of_getElem? (i := 0) rfl)))
  have ke65 : Keep h0 h29 [tr] := (Keep.ext ke64 E29)
  have ke66 : Keep h0 h34 [tr] := (Keep.trans ke65 K34 (allS (Or.inr (Nat.le_trans sz32 (Nat.le_of_eq gq29.symm))) all0))
  have ke67 : Keep h0 h38 [tr] := (Keep.wr ke66 W38 (Or.inl (List.mem_of_getElem? (i := 0) rfl)))
  obtain ⟨fs, hr, hrun, hended, hW, hsame⟩ := X38.leave (v := none) (fun _ => rfl)
  refine ⟨_, _, ?_, hrun, hended, _, _, rfl, ?_, ⟨_, rfl⟩, hW, hsame.mono (by decide) (by decide)⟩
  · exact X38.returnOut hx Bd.returns (hb hby d11_37) hr
  · show Q_trinit _ _ _ _ _ _ T38.heap _
    rw [e38]
    exact ⟨b2, b13, b29, rfl, N38, ke67, g_b2, (Nat.le_of_eq gq2.symm), g_b13, (Nat.le_trans sz18 (Nat.le_of_eq gq13.symm)), nq41, f42, f43, f44, f39, f45, f50, f51, f52, f53, f56, f57, f58⟩
def Q_record (Z : State) (tr : Addr) (lu : Addr) (lc : Addr) (de : Addr) (kd : ClassId) (ax : Addr) (rn : Addr) (h0 : Heap) (n0 : Nat) (vR : Option Value) (h : Heap) (L : List Loc) : Prop := vR = none ∧ Fr n0 L ∧ Keep h0 h [lu, lc]
theorem ef_record (m : MethodId) (x0 : Addr) (x1 : Addr) (x2 : Addr) : entryFrame m #[(.ref x0), (.ref x1), (.ref x2)] 3 = mkF m 0 #[.val (.ref x0), .val (.ref x1), .val (.ref x2)] [] := by first | (simp [entryFrame, mkF, argsToLocals, Value.category]; done) | rfl
set_option maxRecDepth 65536 in
set_option maxHeartbeats 40000000 in
theorem rm_record (l : Launch) (Z : State) (a0 : Array Value) (hw : ∀ d ∈ tables_1, d.before a0 Z = true) (ws : List Jvm.Cond) (tr : Addr) (lu : Addr) (lc : Addr) (de : Addr) (kd : ClassId) (ax : Addr) (rn : Addr) (h0 : Heap) (n0 : Nat) (Z0 : n0 ≤ h0.size) (H0 : Exa Z h0 tr cTR) (H1 : Fld Z h0 tr cTR "undos" "Ljava/util/List;" (.ref lu)) (H2 : Fld Z h0 tr cTR "changed" "Ljava/util/List;" (.ref lc)) (H3 : Exa Z h0 lu cAL) (H4 : Fld Z h0 lu cAL "elementData" "[Ljava/lang/Object;" (.ref de)) (H5 : Fld Z h0 lu cAL "size" "I" (.int 0)) (H6 : Fld Z h0 lu "java/util/AbstractList" "modCount" "I" (.int 0)) (H7 : Exa Z h0 lc cAL) (H8 : Fld Z h0 lc cAL "elementData" "[Ljava/lang/Object;" (.ref de)) (H9 : Fld Z h0 lc cAL "size" "I" (.int 0)) (H10 : Fld Z h0 lc "java/util/AbstractList" "modCount" "I" (.int 0)) (g_lu : n0 ≤ lu) (g_lc : n0 ≤ lc) (ne_lu_lc : lu ≠ lc) (H14 : Arv Z h0 de kd (.object "java/lang/Object") (0 : Int32) [] .null) (DES : Sta Z Z.heap "java/util/ArrayList" "DEFAULTCAPACITY_EMPTY_ELEMENTDATA" "[Ljava/lang/Object;" (.ref de)) (zl_de : de < Z.heap.size) (H17 : Obj Z h0 ax) (H18 : Obj Z h0 rn) (O0 : Old Z n0 h0) :
    MetFree l (⟨"com/example/adjoinery/adjoinery/Trail", "record", "(Lcom/example/adjoinery/adjoinery/FeatureValue;Ljava/lang/Runnable;)V"⟩ : MethodName) (head1 (Jvm.Cond.code (⟨"com/example/adjoinery/adjoinery/Trail", "record", "(Lcom/example/adjoinery/adjoinery/FeatureValue;Ljava/lang/Runnable;)V"⟩ : MethodName) prog_65_method_3_code 3 none :: ws) ({ frames := 5, cells := 2, slots := 20, locals := 69 } : Room)) (fun a U => a = #[(.ref tr), (.ref ax), (.ref rn)] ∧ Z.Warmed39 U.vm ∧ U.heap = h0) (fun _ _ _ _ _ => True) (fun _ U o U' => ∃ v L, o = .returned v ∧ Q_record Z tr lu lc de kd ax rn h0 n0 v U'.heap L ∧ FrameEnd U o U' L ({ frames := 5, cells := 2, slots := 20, locals := 69 } : Room).cells ({ frames := 5, cells := 2, slots := 20, locals := 69 } : Room).slots) := by
  refine MetFree.of_bodySF (plainFor_of_name pn_com_example_adjoinery_adjoinery_Trail) hisR ?_
  intro p e s m args below meth c s₁ Bd hml0 hP hK
  obtain ⟨rfl, hZ, hh⟩ := hP
  have hx := Bd.exec
  have hby := Bd.bytes
  have hml : c.maxLocals = 3 := hml0
  have hown : s.vm.findClass "com/example/adjoinery/adjoinery/Trail" = some m.cls := findClass_of_methodNamed Bd.named
  have hnm := (name_of_methodNamed Bd.named Bd.method).1
  have X0 : Stand p l e ({ frames := 5, cells := 2, slots := 20, locals := 69 } : Room) s m #[(.ref tr), (.ref ax), (.ref rn)] below meth c s₁ [] 0 0 := Stand.of_body Bd
  have e0 : s₁.heap = h0 := by rw [← hh, Bd.state]; rfl
  have N0 := Fr.nil n0
  refine go_st (fun t k => castTop (ef_record m tr ax rn) k) ?_
  show Go _ _ _ _ (s₁.setTop (mkF m 0 #[rv tr, rv ax, rv rn] []))
  refine go_st (fun t k => XS.aloadN X0.here hx rfl (hb hby d12_0) rfl rfl k) ?_
  show Go _ _ _ _ (s₁.setTop (mkF m 1 #[rv tr, rv ax, rv rn] [(.ref tr)]))
  obtain ⟨T1, X1, e1, st1⟩ := getF X0 hx hZ hown (host := "") (Or.inl (w157 hw)) Via.refl e0 H2 (g := (mkF m 1 #[rv tr, rv ax, rv rn] [(.ref tr)])) rfl rfl (hb hby d12_1)
  refine go_st (fun t k => st1 t k) ?_
  refine go_st (fun t k => XS.aloadN X1.here hx rfl (hb hby d12_4) rfl rfl k) ?_
  show Go _ _ _ _ (T1.setTop (mkF m 5 #[rv tr, rv ax, rv rn] [(.ref ax), (.ref lc)]))
  obtain ⟨cq2, kq2, q2a, q2b, q2c⟩ := isOf hZ e1 H7
  obtain ⟨_, _, ⟨T2, L2, kk2, nn2⟩, -, X2, ⟨Lc2, hQ2, lq2, yq2, zq2⟩, st2⟩ := X1.interfaceBack hx (xi := (⟨"java/util/List", "add", "(Ljava/lang/Object;)Z"⟩ : MethodName)) (y := (⟨"java/util/ArrayList", "add", "(Ljava/lang/Object;)Z"⟩ : MethodName)) hown (mvT hZ (w200 hw)) (mvT hZ (w201 hw)) (mvT hZ (w202 hw)) (mvT hZ (w203 hw)) (mvT hZ (w204 hw)) (mvT hZ (w205 hw)) (mvT hZ (w206 hw)) (mvT hZ (w207 hw)) (by decide) (backOf (W := 0) (rm_add1 l Z a0 hw [] ax lc de kd h0 n0 (Nat.le_trans Z0 (Nat.le_refl _)) H7 H8 H9 H10 H14 H17 g_lc DES zl_de O0) hZ (w208 hw) (w133 hw) (by decide) (by decide)) q2a q2b q2c (g := (mkF m 5 #[rv tr, rv ax, rv rn] [(.ref ax), (.ref lc)])) rfl (by rw [hml]; rfl) (Steps.refl _) (argsL := [(.ref ax)]) (rest := []) (lenOf pd_6 rfl) rfl (by show 2 * 0 + _ ≤ _; exact Nat.le_of_eq rfl) (hb hby d12_5) (fun _ _ => ⟨rfl, e1, (by decide : 0 + 1 ≤ _), (by decide : 0 + 10 ≤ _)⟩)
  dsimp only [Pt.U, Pt.locs, Pt.cells, Pt.slots] at X2 lq2 yq2 zq2 st2 hQ2
  subst lq2 yq2 zq2
  obtain ⟨h2, e2⟩ : ∃ z, T2.heap = z := ⟨_, rfl⟩
  rw [e2] at hQ2
  obtain ⟨rfl, N2q, K2⟩ := hQ2
  have N2 := Fr.app N0 N2q
  refine go_tr st2 ?_
  show Go _ _ _ _ (T2.setTop (mkF m 10 #[rv tr, rv ax, rv rn] [(.int 1)]))
  refine go_st (fun t k => XS.pop X2.here hx rfl (hb hby d12_10) rfl rfl k) ?_
  refine go_st (fun t k => XS.aloadN X2.here hx rfl (hb hby d12_11) rfl rfl k) ?_
  show Go _ _ _ _ (T2.setTop (mkF m 12 #[rv tr, rv ax, rv rn] [(.ref tr)]))
  have nq3 : tr ≠ lc := ne_exa H0 H7 (by decide)
  have f4 : Fld Z h2 tr cTR "undos" "Ljava/util/List;" (.ref lu) := (H1.keep K2 (ninS nq3 nin0))
  obtain ⟨T5, X5, e5, st5⟩ := getF X2 hx hZ hown (host := "") (Or.inl (w155 hw)) Via.refl e2 f4 (g := (mkF m 12 #[rv tr, rv ax, rv rn] [(.ref tr)])) rfl rfl (hb hby d12_12)
  refine go_st (fun t k => st5 t k) ?_
  refine go_st (fun t k => XS.aloadN X5.here hx rfl (hb hby d12_15) rfl rfl k) ?_
  show Go _ _ _ _ (T5.setTop (mkF m 16 #[rv tr, rv ax, rv rn] [(.ref rn), (.ref lu)]))
  have f6 : Exa Z h2 lu cAL := (H3.keep K2)
  have f7 : Fld Z h2 lu cAL "elementData" "[Ljava/lang/Object;" (.ref de) := (H4.keep K2 (ninS ne_lu_lc nin0))
  have f8 : Fld Z h2 lu cAL "size" "I" (.int 0) := (H5.keep K2 (ninS ne_lu_lc nin0))
  have f9 : Fld Z h2 lu "java/util/AbstractList" "modCount" "I" (.int 0) := (H6.keep K2 (ninS ne_lu_lc nin0))
  have nq10 : de ≠ lc := Old.ne O0 zl_de g_lc
  have f11 : Arv Z h2 de kd (.object "java/lang/Object") (0 : Int32) [] .null := (H14.keep K2 (ninS nq10 nin0))
  have f12 : Obj Z h2 rn := (H18.keep K2 )
  have oe13 : Old Z n0 h2 := (Old.keep O0 K2 (allS g_lc all0))
  obtain ⟨cq14, kq14, q14a, q14b, q14c⟩ := isOf hZ e5 f6
  obtain ⟨_, _, ⟨T14, L14, kk14, nn14⟩, -, X14, ⟨Lc14, hQ14, lq14, yq14, zq14⟩, st14⟩ := X5.interfaceBack hx (xi := (⟨"java/util/List", "add", "(Ljava/lang/Object;)Z"⟩ : MethodName)) (y := (⟨"java/util/ArrayList", "add", "(Ljava/lang/Object;)Z"⟩ : MethodName)) hown (mvT hZ (w200 hw)) (mvT hZ (w201 hw)) (mvT hZ (w202 hw)) (mvT hZ (w203 hw)) (mvT hZ (w204 hw)) (mvT hZ (w205 hw)) (mvT hZ (w206 hw)) (mvT hZ (w207 hw)) (by decide) (backOf (W := 0) (rm_add1 l Z a0 hw [] rn lu de kd h2 n0 (Nat.le_trans Z0 K2.1) f6 f7 f8 f9 f11 f12 g_lu DES zl_de oe13) hZ (w208 hw) (w133 hw) (by decide) (by decide)) q14a q14b q14c (g := (mkF m 16 #[rv tr, rv ax, rv rn] [(.ref rn), (.ref lu)])) rfl (by rw [hml]; rfl) (Steps.refl _) (argsL := [(.ref rn)]) (rest := []) (lenOf pd_6 rfl) rfl (by show 2 * 0 + _ ≤ _; exact Nat.le_of_eq rfl) (hb hby d12_16) (fun _ _ => ⟨rfl, e5, (by decide : 1 + 1 ≤ _), (by decide : 10 + 10 ≤ _)⟩)
  dsimp only [Pt.U, Pt.locs, Pt.cells, Pt.slots] at X14 lq14 yq14 zq14 st14 hQ14
  subst lq14 yq14 zq14
  obtain ⟨h14, e14⟩ : ∃ z, T14.heap = z := ⟨_, rfl⟩
  rw [e14] at hQ14
  obtain ⟨rfl, N14q, K14⟩ := hQ14
  have N14 := Fr.app N2 N14q
  refine go_tr st14 ?_
  show Go _ _ _ _ (T14.setTop (mkF m 21 #[rv tr, rv ax, rv rn] [(.int 1)]))
  refine go_st (fun t k => XS.pop X14.here hx rfl (hb hby d12_21) rfl rfl k) ?_
  show Go _ _ _ _ (T14.setTop (mkF m 22 #[rv tr, rv ax, rv rn] []))
  have ke15 : Keep h0 h2 [lu, lc] := (Keep.trans (Keep.refl h0 [lu, lc]) K2 (allS (Or.inl (List.mem_of_getElem? (i := 1) rfl)) all0))
  have ke16 : Keep h0 h14 [lu, lc] := (Keep.trans ke15 K14 (allS (Or.inl (List.mem_of_getElem? (i := 0) rfl)) all0))
  obtain ⟨fs, hr, hrun, hended, hW, hsame⟩ := X14.leave (v := none) (fun _ => rfl)
  refine ⟨_, _, ?_, hrun, hended, _, _, rfl, ?_, ⟨_, rfl⟩, hW, hsame.mono (by decide) (by decide)⟩
  · exact X14.returnOut hx Bd.returns (hb hby d12_22) hr
  · show Q_record _ _ _ _ _ _ _ _ _ _ _ T14.heap _
    rw [e14]
    exact ⟨rfl, N14, ke16⟩
def Q_rnn (Z : State) (ax : Addr) (h0 : Heap) (n0 : Nat) (vR : Option Value) (h : Heap) (L : List Loc) : Prop := vR = some (.ref ax) ∧ Fr n0 L ∧ h = h0
theorem ef_rnn (m : MethodId) (x0 : Addr) : entryFrame m #[(.ref x0)] 1 = mkF m 0 #[.val (.ref x0)] [] := by first | (simp [entryFrame, mkF, argsToLocals, Value.category]; done) | rfl
set_option maxRecDepth 65536 in
set_option maxHeartbeats 40000000 in
theorem rm_rnn (l : Launch) (Z : State) (a0 : Array Value) (hw : ∀ d ∈ tables_1, d.before a0 Z = true) (ws : List Jvm.Cond) (ax : Addr) (h0 : Heap) (n0 : Nat) (Z0 : n0 ≤ h0.size)  :
    MetFree l (⟨"java/util/Objects", "requireNonNull", "(Ljava/lang/Object;)Ljava/lang/Object;"⟩ : MethodName) (head1 (Jvm.Cond.code (⟨"java/util/Objects", "requireNonNull", "(Ljava/lang/Object;)Ljava/lang/Object;"⟩ : MethodName) jdk_31_method_10_code 1 (some (.object "java/lang/Object")) :: ws) ({ frames := 0, cells := 0, slots := 0, locals := 0 } : Room)) (fun a U => a = #[(.ref ax)] ∧ Z.Warmed39 U.vm ∧ U.heap = h0) (fun _ _ _ _ _ => True) (fun _ U o U' => ∃ v L, o = .returned v ∧ Q_rnn Z ax h0 n0 v U'.heap L ∧ FrameEnd U o U' L ({ frames := 0, cells := 0, slots := 0, locals := 0 } : Room).cells ({ frames := 0, cells := 0, slots := 0, locals := 0 } : Room).slots) := by
  refine MetFree.of_bodySF (plainFor_of_name pn_java_util_Objects) hisR ?_
  intro p e s m args below meth c s₁ Bd hml0 hP hK
  obtain ⟨rfl, hZ, hh⟩ := hP
  have hx := Bd.exec
  have hby := Bd.bytes
  have hml : c.maxLocals = 1 := hml0
  have hown : s.vm.findClass "java/util/Objects" = some m.cls := findClass_of_methodNamed Bd.named
  have hnm := (name_of_methodNamed Bd.named Bd.method).1
  have X0 : Stand p l e ({ frames := 0, cells := 0, slots := 0, locals := 0 } : Room) s m #[(.ref ax)] below meth c s₁ [] 0 0 := Stand.of_body Bd
  have e0 : s₁.heap = h0 := by rw [← hh, Bd.state]; rfl
  have N0 := Fr.nil n0
  refine go_st (fun t k => castTop (ef_rnn m ax) k) ?_
  show Go _ _ _ _ (s₁.setTop (mkF m 0 #[rv ax] []))
  refine go_st (fun t k => XS.aloadN X0.here hx rfl (hb hby d13_0) rfl rfl k) ?_
  show Go _ _ _ _ (s₁.setTop (mkF m 1 #[rv ax] [(.ref ax)]))
  refine go_st (fun t k => XS.ifnonnullYes X0.here hx rfl (pc0 := 1) (pc' := 12) rfl (hb hby d13_1) rfl (by decide) (by decide) k) ?_
  show Go _ _ _ _ (s₁.setTop (mkF m 12 #[rv ax] []))
  refine go_st (fun t k => XS.aloadN X0.here hx rfl (hb hby d13_12) rfl rfl k) ?_
  show Go _ _ _ _ (s₁.setTop (mkF m 13 #[rv ax] [(.ref ax)]))
  obtain ⟨fs, hr, hrun, hended, hW, hsame⟩ := X0.leave (v := some (.ref ax)) (fun h => by rw [Bd.returns] at h; cases h)
  refine ⟨_, _, ?_, hrun, hended, _, _, rfl, ?_, ⟨_, rfl⟩, hW, hsame.mono (by decide) (by decide)⟩
  · exact retOut X0 hx Bd.returns rfl (Or.inr (Or.inr (Or.inr (Or.inr ⟨rfl, rfl, rfl⟩)))) (hb hby d13_13) hr
  · show Q_rnn _ _ _ _ _ s₁.heap _
    rw [e0]
    exact ⟨rfl, N0, rfl⟩
def Q_rnn2 (Z : State) (ax : Addr) (am : Addr) (h0 : Heap) (n0 : Nat) (vR : Option Value) (h : Heap) (L : List Loc) : Prop := vR = some (.ref ax) ∧ Fr n0 L ∧ h = h0
theorem ef_rnn2 (m : MethodId) (x0 : Addr) (x1 : Addr) : entryFrame m #[(.ref x0), (.ref x1)] 2 = mkF m 0 #[.val (.ref x0), .val (.ref x1)] [] := by first | (simp [entryFrame, mkF, argsToLocals, Value.category]; done) | rfl
set_option maxRecDepth 65536 in
set_option maxHeartbeats 40000000 in
theorem rm_rnn2 (l : Launch) (Z : State) (a0 : Array Value) (hw : ∀ d ∈ tables_1, d.before a0 Z = true) (ws : List Jvm.Cond) (ax : Addr) (am : Addr) (h0 : Heap) (n0 : Nat) (Z0 : n0 ≤ h0.size)  :
    MetFree l (⟨"java/util/Objects", "requireNonNull", "(Ljava/lang/Object;Ljava/lang/String;)Ljava/lang/Object;"⟩ : MethodName) (head1 (Jvm.Cond.code (⟨"java/util/Objects", "requireNonNull", "(Ljava/lang/Object;Ljava/lang/String;)Ljava/lang/Object;"⟩ : MethodName) jdk_31_method_11_code 2 (some (.object "java/lang/Object")) :: ws) ({ frames := 0, cells := 0, slots := 0, locals := 0 } : Room)) (fun a U => a = #[(.ref ax), (.ref am)] ∧ Z.Warmed39 U.vm ∧ U.heap = h0) (fun _ _ _ _ _ => True) (fun _ U o U' => ∃ v L, o = .returned v ∧ Q_rnn2 Z ax am h0 n0 v U'.heap L ∧ FrameEnd U o U' L ({ frames := 0, cells := 0, slots := 0, locals := 0 } : Room).cells ({ frames := 0, cells := 0, slots := 0, locals := 0 } : Room).slots) := by
  refine MetFree.of_bodySF (plainFor_of_name pn_java_util_Objects) hisR ?_
  intro p e s m args below meth c s₁ Bd hml0 hP hK
  obtain ⟨rfl, hZ, hh⟩ := hP
  have hx := Bd.exec
  have hby := Bd.bytes
  have hml : c.maxLocals = 2 := hml0
  have hown : s.vm.findClass "java/util/Objects" = some m.cls := findClass_of_methodNamed Bd.named
  have hnm := (name_of_methodNamed Bd.named Bd.method).1
  have X0 : Stand p l e ({ frames := 0, cells := 0, slots := 0, locals := 0 } : Room) s m #[(.ref ax), (.ref am)] below meth c s₁ [] 0 0 := Stand.of_body Bd
  have e0 : s₁.heap = h0 := by rw [← hh, Bd.state]; rfl
  have N0 := Fr.nil n0
  refine go_st (fun t k => castTop (ef_rnn2 m ax am) k) ?_
  show Go _ _ _ _ (s₁.setTop (mkF m 0 #[rv ax, rv am] []))
  refine go_st (fun t k => XS.aloadN X0.here hx rfl (hb hby d14_0) rfl rfl k) ?_
  show Go _ _ _ _ (s₁.setTop (mkF m 1 #[rv ax, rv am] [(.ref ax)]))
  refine go_st (fun t k => XS.ifnonnullYes X0.here hx rfl (pc0 := 1) (pc' := 13) rfl (hb hby d14_1) rfl (by decide) (by decide) k) ?_
  show Go _ _ _ _ (s₁.setTop (mkF m 13 #[rv ax, rv am] []))
  refine go_st (fun t k => XS.aloadN X0.here hx rfl (hb hby d14_13) rfl rfl k) ?_
  show Go _ _ _ _ (s₁.setTop (mkF m 14 #[rv ax, rv am] [(.ref ax)]))
  obtain ⟨fs, hr, hrun, hended, hW, hsame⟩ := X0.leave (v := some (.ref ax)) (fun h => by rw [Bd.returns] at h; cases h)
  refine ⟨_, _, ?_, hrun, hended, _, _, rfl, ?_, ⟨_, rfl⟩, hW, hsame.mono (by decide) (by decide)⟩
  · exact retOut X0 hx Bd.returns rfl (Or.inr (Or.inr (Or.inr (Or.inr ⟨rfl, rfl, rfl⟩)))) (hb hby d14_14) hr
  · show Q_rnn2 _ _ _ _ _ _ s₁.heap _
    rw [e0]
    exact ⟨rfl, N0, rfl⟩
def Q_eqsame (Z : State) (a1 : Addr) (h0 : Heap) (n0 : Nat) (vR : Option Value) (h : Heap) (L : List Loc) : Prop := vR = some (.int 1) ∧ Fr n0 L ∧ h = h0
theorem ef_eqsame (m : MethodId) (x0 : Addr) (x1 : Addr) : entryFrame m #[(.ref x0), (.ref x1)] 3 = mkF m 0 #[.val (.ref x0), .val (.ref x1), .unset] [] := by first | (simp [entryFrame, mkF, argsToLocals, Value.category]; done) | rfl
set_option maxRecDepth 65536 in
set_option maxHeartbeats 40000000 in
theorem rm_eqsame (l : Launch) (Z : State) (a0 : Array Value) (hw : ∀ d ∈ tables_1, d.before a0 Z = true) (ws : List Jvm.Cond) (a1 : Addr) (h0 : Heap) (n0 : Nat) (Z0 : n0 ≤ h0.size)  :
    MetFree l (⟨"java/lang/String", "equals", "(Ljava/lang/Object;)Z"⟩ : MethodName) (head1 (Jvm.Cond.code (⟨"java/lang/String", "equals", "(Ljava/lang/Object;)Z"⟩ : MethodName) jdk_42_method_66_code 3 (some .boolean) :: ws) ({ frames := 0, cells := 0, slots := 0, locals := 0 } : Room)) (fun a U => a = #[(.ref a1), (.ref a1)] ∧ Z.Warmed39 U.vm ∧ U.heap = h0) (fun _ _ _ _ _ => True) (fun _ U o U' => ∃ v L, o = .returned v ∧ Q_eqsame Z a1 h0 n0 v U'.heap L ∧ FrameEnd U o U' L ({ frames := 0, cells := 0, slots := 0, locals := 0 } : Room).cells ({ frames := 0, cells := 0, slots := 0, locals := 0 } : Room).slots) := by
  refine MetFree.of_bodySF (plainFor_of_name pn_java_lang_String) hisR ?_
  intro p e s m args below meth c s₁ Bd hml0 hP hK
  obtain ⟨rfl, hZ, hh⟩ := hP
  have hx := Bd.exec
  have hby := Bd.bytes
  have hml : c.maxLocals = 3 := hml0
  have hown : s.vm.findClass "java/lang/String" = some m.cls := findClass_of_methodNamed Bd.named
  have hnm := (name_of_methodNamed Bd.named Bd.method).1
  have X0 : Stand p l e ({ frames := 0, cells := 0, slots := 0, locals := 0 } : Room) s m #[(.ref a1), (.ref a1)] below meth c s₁ [] 0 0 := Stand.of_body Bd
  have e0 : s₁.heap = h0 := by rw [← hh, Bd.state]; rfl
  have N0 := Fr.nil n0
  refine go_st (fun t k => castTop (ef_eqsame m a1 a1) k) ?_
  show Go _ _ _ _ (s₁.setTop (mkF m 0 #[rv a1, rv a1, .unset] []))
  refine go_st (fun t k => XS.aloadN X0.here hx rfl (hb hby d15_0) rfl rfl k) ?_
  refine go_st (fun t k => XS.aloadN X0.here hx rfl (hb hby d15_1) rfl rfl k) ?_
  show Go _ _ _ _ (s₁.setTop (mkF m 2 #[rv a1, rv a1, .unset] [(.ref a1), (.ref a1)]))
  refine go_st (fun t k => Jvm.RoadKit.acmp (g := (mkF m 2 #[rv a1, rv a1, .unset] [(.ref a1), (.ref a1)])) X0 hx rfl rfl rfl (pc0 := 2) (pc' := 5) (same := true) rfl (hb hby d15_2) rfl (decide_eq_true rfl) (by decide) (by decide) k) ?_
  show Go _ _ _ _ (s₁.setTop (mkF m 5 #[rv a1, rv a1, .unset] []))
  refine go_st (fun t k => XS.iconst X0.here hx rfl (hb hby d15_5) k) ?_
  show Go _ _ _ _ (s₁.setTop (mkF m 6 #[rv a1, rv a1, .unset] [(.int 1)]))
  obtain ⟨fs, hr, hrun, hended, hW, hsame⟩ := X0.leave (v := some (.int 1)) (fun h => by rw [Bd.returns] at h; cases h)
  refine ⟨_, _, ?_, hrun, hended, _, _, rfl, ?_, ⟨_, rfl⟩, hW, hsame.mono (by decide) (by decide)⟩
  · exact retN X0 hx (t := .boolean) Bd.returns (by simp) (hb hby d15_6) hr
  · show Q_eqsame _ _ _ _ _ s₁.heap _
    rw [e0]
    exact ⟨rfl, N0, rfl⟩
def Q_flinit (Z : State) (fl : Addr) (h0 : Heap) (n0 : Nat) (vR : Option Value) (h : Heap) (L : List Loc) : Prop := ∃ (na : Addr) (va : Addr) (kn : ClassId) (kv : ClassId), vR = none ∧ Fr n0 L ∧ Keep h0 h [fl] ∧ n0 ≤ na ∧ h0.size ≤ na ∧ n0 ≤ va ∧ h0.size ≤ va ∧ na ≠ va ∧ (Exa Z h fl cFL) ∧ (Fld Z h fl cFL "names" "[Ljava/lang/String;" (.ref na)) ∧ (Fld Z h fl cFL "values" "[Lcom/example/adjoinery/adjoinery/FeatureValue;" (.ref va)) ∧ (Fld Z h fl cFL "positions" "Ljava/util/Map;" .null) ∧ (Fld Z h fl cFL "size" "I" (.int 0)) ∧ (Arv Z h na kn (.object "java/lang/String") (4 : Int32) [.null, .null, .null, .null] .null) ∧ (Arv Z h va kv (.object "com/example/adjoinery/adjoinery/FeatureValue") (4 : Int32) [.null, .null, .null, .null] .null) ∧ Ovr Z kn "java/lang/String" ∧ Ovr Z kv "com/example/adjoinery/adjoinery/FeatureValue"
theorem ef_flinit (m : MethodId) (x0 : Addr) (x1 : Int32) : entryFrame m #[(.ref x0), (.int x1)] 2 = mkF m 0 #[.val (.ref x0), .val (.int x1)] [] := by first | (simp [entryFrame, mkF, argsToLocals, Value.category]; done) | rfl
set_option maxRecDepth 65536 in
set_option maxHeartbeats 40000000 in
theorem rm_flinit (l : Launch) (Z : State) (a0 : Array Value) (hw : ∀ d ∈ tables_1, d.before a0 Z = true) (ws : List Jvm.Cond) (fl : Addr) (h0 : Heap) (n0 : Nat) (Z0 : n0 ≤ h0.size) (H0 : Exa Z h0 fl cFL) (H1 : Fld Z h0 fl cFL "names" "[Ljava/lang/String;" .null) (H2 : Fld Z h0 fl cFL "values" "[Lcom/example/adjoinery/adjoinery/FeatureValue;" .null) (H3 : Fld Z h0 fl cFL "positions" "Ljava/util/Map;" .null) (H4 : Fld Z h0 fl cFL "size" "I" (.int 0)) (g_fl : n0 ≤ fl) :
    MetFree l (⟨"com/example/adjoinery/adjoinery/FeatureList", "<init>", "(I)V"⟩ : MethodName) (head1 (Jvm.Cond.code (⟨"com/example/adjoinery/adjoinery/FeatureList", "<init>", "(I)V"⟩ : MethodName) prog_20_method_1_code 2 none :: ws) ({ frames := 1, cells := 2, slots := 8, locals := 12 } : Room)) (fun a U => a = #[(.ref fl), (.int 4)] ∧ Z.Warmed39 U.vm ∧ U.heap = h0) (fun _ _ _ _ _ => True) (fun _ U o U' => ∃ v L, o = .returned v ∧ Q_flinit Z fl h0 n0 v U'.heap L ∧ FrameEnd U o U' L ({ frames := 1, cells := 2, slots := 8, locals := 12 } : Room).cells ({ frames := 1, cells := 2, slots := 8, locals := 12 } : Room).slots) := by
  refine MetFree.of_bodySF (plainFor_of_name pn_com_example_adjoinery_adjoinery_FeatureList) hisR ?_
  intro p e s m args below meth c s₁ Bd hml0 hP hK
  obtain ⟨rfl, hZ, hh⟩ := hP
  have hx := Bd.exec
  have hby := Bd.bytes
  have hml : c.maxLocals = 2 := hml0
  have hown : s.vm.findClass "com/example/adjoinery/adjoinery/FeatureList" = some m.cls := findClass_of_methodNamed Bd.named
  have hnm := (name_of_methodNamed Bd.named Bd.method).1
  have X0 : Stand p l e ({ frames := 1, cells := 2, slots := 8, locals := 12 } : Room) s m #[(.ref fl), (.int 4)] below meth c s₁ [] 0 0 := Stand.of_body Bd
  have e0 : s₁.heap = h0 := by rw [← hh, Bd.state]; rfl
  have N0 := Fr.nil n0
  refine go_st (fun t k => castTop (ef_flinit m fl (4 : Int32)) k) ?_
  show Go _ _ _ _ (s₁.setTop (mkF m 0 #[rv fl, iv 4] []))
  refine go_st (fun t k => XS.aloadN X0.here hx rfl (hb hby d16_0) rfl rfl k) ?_
  show Go _ _ _ _ (s₁.setTop (mkF m 1 #[rv fl, iv 4] [(.ref fl)]))
  obtain ⟨T1, X1, e1, st1⟩ := initO X0 hx hZ hown (w12 hw) (w13 hw) (w14 hw) e0 (g := (mkF m 1 #[rv fl, iv 4] [(.ref fl)])) rfl (by rw [hml]; rfl) rfl (hb hby d16_1) (by decide) (W := 0) (by show 2 * 0 + _ ≤ _; exact Nat.le_of_eq rfl) (by decide)
  refine go_st (fun t k => st1 t k) ?_
  refine go_st (fun t k => XS.aloadN X1.here hx rfl (hb hby d16_4) rfl rfl k) ?_
  refine go_st (fun t k => XS.iloadN X1.here hx rfl (hb hby d16_5) rfl k) ?_
  show Go _ _ _ _ (T1.setTop (mkF m 6 #[rv fl, iv 4] [(.int 4), (.ref fl)]))
  obtain ⟨T2, h2, kc2, X2, e2, E2, A2, ov2, st2⟩ := newR X1 hx hZ hown (w15 hw) (w16 hw) e1 (g := (mkF m 6 #[rv fl, iv 4] [(.int 4), (.ref fl)])) rfl (hb hby d16_6) rfl (by decide) (cap := 4) (by decide) (by decide) (by decide) (by decide)
  obtain ⟨b2, gq2⟩ : ∃ z, z = h0.size := ⟨_, rfl⟩
  rw [← gq2] at A2 st2
  have f3 : Arv Z h2 b2 kc2 (.object "java/lang/String") (4 : Int32) [.null, .null, .null, .null] .null := (Arv.new A2 (by decide)).pad (pad_rep [] .null 4)
  refine go_st (fun t k => st2 t k) ?_
  show Go _ _ _ _ (T2.setTop (mkF m 9 #[rv fl, iv 4] [(.ref b2), (.ref fl)]))
  have f4 : Fld Z h2 fl cFL "names" "[Ljava/lang/String;" .null := (H1.ext E2)
  have f5 : Exa Z h2 fl cFL := (H0.ext E2)
  obtain ⟨T6, h6, X6, e6, W6, st6⟩ := putF X2 hx hZ hown (host := "") (Or.inl (w17 hw)) Via.refl e2 f4 f5 (Or.inl (w18 hw)) (w7 hw) (ty := (.array (.object "java/lang/String"))) (by decide) rfl rfl (g := (mkF m 9 #[rv fl, iv 4] [(.ref b2), (.ref fl)])) rfl rfl (hb hby d16_9)
  have N6 := Fr.snoc X6 N0 g_fl
  have f7 : Fld Z h6 fl cFL "names" "[Ljava/lang/String;" (.ref b2) := f4.same W6
  refine go_st (fun t k => st6 t k) ?_
  refine go_st (fun t k => XS.aloadN X6.here hx rfl (hb hby d16_12) rfl rfl k) ?_
  refine go_st (fun t k => XS.iloadN X6.here hx rfl (hb hby d16_13) rfl k) ?_
  show Go _ _ _ _ (T6.setTop (mkF m 14 #[rv fl, iv 4] [(.int 4), (.ref fl)]))
  obtain ⟨T8, h8, kc8, X8, e8, E8, A8, ov8, st8⟩ := newR X6 hx hZ hown (w19 hw) (w20 hw) e6 (g := (mkF m 14 #[rv fl, iv 4] [(.int 4), (.ref fl)])) rfl (hb hby d16_14) rfl (by decide) (cap := 4) (by decide) (by decide) (by decide) (by decide)
  obtain ⟨b8, gq8⟩ : ∃ z, z = h6.size := ⟨_, rfl⟩
  rw [← gq8] at A8 st8
  have f9 : Arv Z h8 b8 kc8 (.object "com/example/adjoinery/adjoinery/FeatureValue") (4 : Int32) [.null, .null, .null, .null] .null := (Arv.new A8 (by decide)).pad (pad_rep [] .null 4)
  refine go_st (fun t k => st8 t k) ?_
  show Go _ _ _ _ (T8.setTop (mkF m 17 #[rv fl, iv 4] [(.ref b8), (.ref fl)]))
  have f10 : Fld Z h8 fl cFL "values" "[Lcom/example/adjoinery/adjoinery/FeatureValue;" .null := (((H2.ext E2).other W6 (Or.inr (slot_ne (Or.inl (w22 hw)) (Or.inl (w18 hw)) (by decide) (t := (.array (.object "com/example/adjoinery/adjoinery/FeatureValue"))) (t' := (.array (.object "java/lang/String"))) (by decide) (by decide)))).ext E8)
  have f11 : Exa Z h8 fl cFL := ((f5.wr W6).ext E8)
  obtain ⟨T12, h12, X12, e12, W12, st12⟩ := putF X8 hx hZ hown (host := "") (Or.inl (w21 hw)) Via.refl e8 f10 f11 (Or.inl (w22 hw)) (w7 hw) (ty := (.array (.object "com/example/adjoinery/adjoinery/FeatureValue"))) (by decide) rfl rfl (g := (mkF m 17 #[rv fl, iv 4] [(.ref b8), (.ref fl)])) rfl rfl (hb hby d16_17)
  have N12 := Fr.snoc X12 N6 g_fl
  have f13 : Fld Z h12 fl cFL "values" "[Lcom/example/adjoinery/adjoinery/FeatureValue;" (.ref b8) := f10.same W12
  refine go_st (fun t k => st12 t k) ?_
  show Go _ _ _ _ (T12.setTop (mkF m 20 #[rv fl, iv 4] []))
  have g_b2 : n0 ≤ b2 := Nat.le_trans (Nat.le_trans Z0 (Nat.le_refl _)) (Nat.le_of_eq gq2.symm)
  have sz14 : h0.size ≤ h6.size := (Nat.le_trans E2.1 (Nat.le_of_eq W6.size.symm))
  have g_b8 : n0 ≤ b8 := Nat.le_trans (Nat.le_trans Z0 sz14) (Nat.le_of_eq gq8.symm)
  have nq15 : b2 ≠ b8 := Nat.ne_of_lt (Nat.lt_of_lt_of_le (Nat.lt_of_lt_of_le f3.lt (Nat.le_of_eq W6.size.symm)) (Nat.le_of_eq gq8.symm))
  have f16 : Exa Z h12 fl cFL := (f11.wr W12)
  have f17 : Fld Z h12 fl cFL "names" "[Ljava/lang/String;" (.ref b2) := ((f7.ext E8).other W12 (Or.inr (slot_ne (Or.inl (w18 hw)) (Or.inl (w22 hw)) (by decide) (t := (.array (.object "java/lang/String"))) (t' := (.array (.object "com/example/adjoinery/adjoinery/FeatureValue"))) (by decide) (by decide))))
  have f18 : Fld Z h12 fl cFL "positions" "Ljava/util/Map;" .null := ((((H3.ext E2).other W6 (Or.inr (slot_ne (Or.inl (w121 hw)) (Or.inl (w18 hw)) (by decide) (t := (.object "java/util/Map")) (t' := (.array (.object "java/lang/String"))) (by decide) (by decide)))).ext E8).other W12 (Or.inr (slot_ne (Or.inl (w121 hw)) (Or.inl (w22 hw)) (by decide) (t := (.object "java/util/Map")) (t' := (.array (.object "com/example/adjoinery/adjoinery/FeatureValue"))) (by decide) (by decide))))
  have f19 : Fld Z h12 fl cFL "size" "I" (.int 0) := ((((H4.ext E2).other W6 (Or.inr (slot_ne (Or.inl (w123 hw)) (Or.inl (w18 hw)) (by decide) (t := .int) (t' := (.array (.object "java/lang/String"))) (by decide) (by decide)))).ext E8).other W12 (Or.inr (slot_ne (Or.inl (w123 hw)) (Or.inl (w22 hw)) (by decide) (t := .int) (t' := (.array (.object "com/example/adjoinery/adjoinery/FeatureValue"))) (by decide) (by decide))))
  have nq20 : fl ≠ b2 := Nat.ne_of_lt (Nat.lt_of_lt_of_le (Nat.lt_of_lt_of_le H0.lt (Nat.le_refl _)) (Nat.le_of_eq gq2.symm))
  have f21 : Arv Z h12 b2 kc2 (.object "java/lang/String") (4 : Int32) [.null, .null, .null, .null] .null := (((f3.other W6 (Ne.symm nq20)).ext E8).other W12 (Ne.symm nq20))
  have nq22 : fl ≠ b8 := Nat.ne_of_lt (Nat.lt_of_lt_of_le (Nat.lt_of_lt_of_le H0.lt sz14) (Nat.le_of_eq gq8.symm))
  have f23 : Arv Z h12 b8 kc8 (.object "com/example/adjoinery/adjoinery/FeatureValue") (4 : Int32) [.null, .null, .null, .null] .null := (f9.other W12 (Ne.symm nq22))
  have ke24 : Keep h0 h2 [fl] := (Keep.ext (Keep.refl h0 [fl]) E2)
  have ke25 : Keep h0 h6 [fl] := (Keep.wr ke24 W6 (Or.inl (List.mem_of_getElem? (i := 0) rfl)))
  have ke26 : Keep h0 h8 [fl] := (Keep.ext ke25 E8)
  have ke27 : Keep h0 h12 [fl] := (Keep.wr ke26 W12 (Or.inl (List.mem_of_getElem? (i := 0) rfl)))
  obtain ⟨fs, hr, hrun, hended, hW, hsame⟩ := X12.leave (v := none) (fun _ => rfl)
  refine ⟨_, _, ?_, hrun, hended, _, _, rfl, ?_, ⟨_, rfl⟩, hW, hsame.mono (by decide) (by decide)⟩
  · exact X12.returnOut hx Bd.returns (hb hby d16_20) hr
  · show Q_flinit _ _ _ _ _ T12.heap _
    rw [e12]
    exact ⟨b2, b8, kc2, kc8, rfl, N12, ke27, g_b2, (Nat.le_of_eq gq2.symm), g_b8, (Nat.le_trans sz14 (Nat.le_of_eq gq8.symm)), nq15, f16, f17, f13, f18, f19, f21, f23, ov2, ov8⟩
def Q_fvinit1 (Z : State) (fv : Addr) (fl : Addr) (h0 : Heap) (n0 : Nat) (vR : Option Value) (h : Heap) (L : List Loc) : Prop := vR = none ∧ Fr n0 L ∧ Keep h0 h [fv] ∧ (Exa Z h fv cFV) ∧ (Fld Z h fv cFV "atom" "Ljava/lang/String;" .null) ∧ (Fld Z h fv cFV "alternatives" "Ljava/util/Set;" .null) ∧ (Fld Z h fv cFV "features" "Lcom/example/adjoinery/adjoinery/FeatureList;" (.ref fl)) ∧ (Fld Z h fv cFV "forward" "Lcom/example/adjoinery/adjoinery/FeatureValue;" .null)
theorem ef_fvinit1 (m : MethodId) (x0 : Addr) (x3 : Addr) : entryFrame m #[(.ref x0), .null, .null, (.ref x3)] 4 = mkF m 0 #[.val (.ref x0), .val .null, .val .null, .val (.ref x3)] [] := by first | (simp [entryFrame, mkF, argsToLocals, Value.category]; done) | rfl
set_option maxRecDepth 65536 in
set_option maxHeartbeats 40000000 in
theorem rm_fvinit1 (l : Launch) (Z : State) (a0 : Array Value) (hw : ∀ d ∈ tables_1, d.before a0 Z = true) (ws : List Jvm.Cond) (fv : Addr) (fl : Addr) (h0 : Heap) (n0 : Nat) (Z0 : n0 ≤ h0.size) (H0 : Exa Z h0 fv cFV) (H1 : Fld Z h0 fv cFV "atom" "Ljava/lang/String;" .null) (H2 : Fld Z h0 fv cFV "alternatives" "Ljava/util/Set;" .null) (H3 : Fld Z h0 fv cFV "features" "Lcom/example/adjoinery/adjoinery/FeatureList;" .null) (H4 : Fld Z h0 fv cFV "forward" "Lcom/example/adjoinery/adjoinery/FeatureValue;" .null) (g_fv : n0 ≤ fv) :
    MetFree l (⟨"com/example/adjoinery/adjoinery/FeatureValue", "<init>", "(Ljava/lang/String;Ljava/util/Set;Lcom/example/adjoinery/adjoinery/FeatureList;)V"⟩ : MethodName) (head1 (Jvm.Cond.code (⟨"com/example/adjoinery/adjoinery/FeatureValue", "<init>", "(Ljava/lang/String;Ljava/util/Set;Lcom/example/adjoinery/adjoinery/FeatureList;)V"⟩ : MethodName) prog_22_method_1_code 4 none :: ws) ({ frames := 1, cells := 0, slots := 0, locals := 12 } : Room)) (fun a U => a = #[(.ref fv), .null, .null, (.ref fl)] ∧ Z.Warmed39 U.vm ∧ U.heap = h0) (fun _ _ _ _ _ => True) (fun _ U o U' => ∃ v L, o = .returned v ∧ Q_fvinit1 Z fv fl h0 n0 v U'.heap L ∧ FrameEnd U o U' L ({ frames := 1, cells := 0, slots := 0, locals := 12 } : Room).cells ({ frames := 1, cells := 0, slots := 0, locals := 12 } : Room).slots) := by
  refine MetFree.of_bodySF (plainFor_of_name pn_com_example_adjoinery_adjoinery_FeatureValue) hisR ?_
  intro p e s m args below meth c s₁ Bd hml0 hP hK
  obtain ⟨rfl, hZ, hh⟩ := hP
  have hx := Bd.exec
  have hby := Bd.bytes
  have hml : c.maxLocals = 4 := hml0
  have hown : s.vm.findClass "com/example/adjoinery/adjoinery/FeatureValue" = some m.cls := findClass_of_methodNamed Bd.named
  have hnm := (name_of_methodNamed Bd.named Bd.method).1
  have X0 : Stand p l e ({ frames := 1, cells := 0, slots := 0, locals := 12 } : Room) s m #[(.ref fv), .null, .null, (.ref fl)] below meth c s₁ [] 0 0 := Stand.of_body Bd
  have e0 : s₁.heap = h0 := by rw [← hh, Bd.state]; rfl
  have N0 := Fr.nil n0
  refine go_st (fun t k => castTop (ef_fvinit1 m fv fl) k) ?_
  show Go _ _ _ _ (s₁.setTop (mkF m 0 #[rv fv, .val .null, .val .null, rv fl] []))
  refine go_st (fun t k => XS.aloadN X0.here hx rfl (hb hby d17_0) rfl rfl k) ?_
  show Go _ _ _ _ (s₁.setTop (mkF m 1 #[rv fv, .val .null, .val .null, rv fl] [(.ref fv)]))
  obtain ⟨T1, X1, e1, st1⟩ := initO X0 hx hZ hown (w26 hw) (w13 hw) (w14 hw) e0 (g := (mkF m 1 #[rv fv, .val .null, .val .null, rv fl] [(.ref fv)])) rfl (by rw [hml]; rfl) rfl (hb hby d17_1) (by decide) (W := 0) (by show 2 * 0 + _ ≤ _; exact Nat.le_of_eq rfl) (by decide)
  refine go_st (fun t k => st1 t k) ?_
  refine go_st (fun t k => XS.aloadN X1.here hx rfl (hb hby d17_4) rfl rfl k) ?_
  refine go_st (fun t k => XS.aloadN X1.here hx rfl (hb hby d17_5) rfl rfl k) ?_
  show Go _ _ _ _ (T1.setTop (mkF m 6 #[rv fv, .val .null, .val .null, rv fl] [.null, (.ref fv)]))
  obtain ⟨T2, h2, X2, e2, W2, st2⟩ := putF X1 hx hZ hown (host := "") (Or.inl (w27 hw)) Via.refl e1 H1 H0 (Or.inr ⟨(w28 hw), rfl, hnm⟩) (w5 hw) (ty := (.object "java/lang/String")) (by decide) rfl rfl (g := (mkF m 6 #[rv fv, .val .null, .val .null, rv fl] [.null, (.ref fv)])) rfl rfl (hb hby d17_6)
  have N2 := Fr.snoc X2 N0 g_fv
  have f3 : Fld Z h2 fv cFV "atom" "Ljava/lang/String;" .null := H1.same W2
  refine go_st (fun t k => st2 t k) ?_
  refine go_st (fun t k => XS.aloadN X2.here hx rfl (hb hby d17_9) rfl rfl k) ?_
  refine go_st (fun t k => XS.aloadN X2.here hx rfl (hb hby d17_10) rfl rfl k) ?_
  show Go _ _ _ _ (T2.setTop (mkF m 11 #[rv fv, .val .null, .val .null, rv fl] [.null, (.ref fv)]))
  have f4 : Fld Z h2 fv cFV "alternatives" "Ljava/util/Set;" .null := (H2.other W2 (Or.inr (slot_ne (Or.inr (w30 hw)) (Or.inr (w28 hw)) (by decide) (t := (.object "java/util/Set")) (t' := (.object "java/lang/String")) (by decide) (by decide))))
  have f5 : Exa Z h2 fv cFV := (H0.wr W2)
  obtain ⟨T6, h6, X6, e6, W6, st6⟩ := putF X2 hx hZ hown (host := "") (Or.inl (w29 hw)) Via.refl e2 f4 f5 (Or.inr ⟨(w30 hw), rfl, hnm⟩) (w5 hw) (ty := (.object "java/util/Set")) (by decide) rfl rfl (g := (mkF m 11 #[rv fv, .val .null, .val .null, rv fl] [.null, (.ref fv)])) rfl rfl (hb hby d17_11)
  have N6 := Fr.snoc X6 N2 g_fv
  have f7 : Fld Z h6 fv cFV "alternatives" "Ljava/util/Set;" .null := f4.same W6
  refine go_st (fun t k => st6 t k) ?_
  refine go_st (fun t k => XS.aloadN X6.here hx rfl (hb hby d17_14) rfl rfl k) ?_
  refine go_st (fun t k => XS.aloadN X6.here hx rfl (hb hby d17_15) rfl rfl k) ?_
  show Go _ _ _ _ (T6.setTop (mkF m 16 #[rv fv, .val .null, .val .null, rv fl] [(.ref fl), (.ref fv)]))
  have f8 : Fld Z h6 fv cFV "features" "Lcom/example/adjoinery/adjoinery/FeatureList;" .null := ((H3.other W2 (Or.inr (slot_ne (Or.inr (w32 hw)) (Or.inr (w28 hw)) (by decide) (t := (.object "com/example/adjoinery/adjoinery/FeatureList")) (t' := (.object "java/lang/String")) (by decide) (by decide)))).other W6 (Or.inr (slot_ne (Or.inr (w32 hw)) (Or.inr (w30 hw)) (by decide) (t := (.object "com/example/adjoinery/adjoinery/FeatureList")) (t' := (.object "java/util/Set")) (by decide) (by decide))))
  have f9 : Exa Z h6 fv cFV := (f5.wr W6)
  obtain ⟨T10, h10, X10, e10, W10, st10⟩ := putF X6 hx hZ hown (host := "") (Or.inl (w31 hw)) Via.refl e6 f8 f9 (Or.inr ⟨(w32 hw), rfl, hnm⟩) (w5 hw) (ty := (.object "com/example/adjoinery/adjoinery/FeatureList")) (by decide) rfl rfl (g := (mkF m 16 #[rv fv, .val .null, .val .null, rv fl] [(.ref fl), (.ref fv)])) rfl rfl (hb hby d17_16)
  have N10 := Fr.snoc X10 N6 g_fv
  have f11 : Fld Z h10 fv cFV "features" "Lcom/example/adjoinery/adjoinery/FeatureList;" (.ref fl) := f8.same W10
  refine go_st (fun t k => st10 t k) ?_
  show Go _ _ _ _ (T10.setTop (mkF m 19 #[rv fv, .val .null, .val .null, rv fl] []))
  have f12 : Exa Z h10 fv cFV := (f9.wr W10)
  have f13 : Fld Z h10 fv cFV "atom" "Ljava/lang/String;" .null := ((f3.other W6 (Or.inr (slot_ne (Or.inr (w28 hw)) (Or.inr (w30 hw)) (by decide) (t := (.object "java/lang/String")) (t' := (.object "java/util/Set")) (by decide) (by decide)))).other W10 (Or.inr (slot_ne (Or.inr (w28 hw)) (Or.inr (w32 hw)) (by decide) (t := (.object "java/lang/String")) (t' := (.object "com/example/adjoinery/adjoinery/FeatureList")) (by decide) (by decide))))
  have f14 : Fld Z h10 fv cFV "alternatives" "Ljava/util/Set;" .null := (f7.other W10 (Or.inr (slot_ne (Or.inr (w30 hw)) (Or.inr (w32 hw)) (by decide) (t := (.object "java/util/Set")) (t' := (.object "com/example/adjoinery/adjoinery/FeatureList")) (by decide) (by decide))))
  have f15 : Fld Z h10 fv cFV "forward" "Lcom/example/adjoinery/adjoinery/FeatureValue;" .null := (((H4.other W2 (Or.inr (slot_ne (Or.inl (w91 hw)) (Or.inr (w28 hw)) (by decide) (t := (.object "com/example/adjoinery/adjoinery/FeatureValue")) (t' := (.object "java/lang/String")) (by decide) (by decide)))).other W6 (Or.inr (slot_ne (Or.inl (w91 hw)) (Or.inr (w30 hw)) (by decide) (t := (.object "com/example/adjoinery/adjoinery/FeatureValue")) (t' := (.object "java/util/Set")) (by decide) (by decide)))).other W10 (Or.inr (slot_ne (Or.inl (w91 hw)) (Or.inr (w32 hw)) (by decide) (t := (.object "com/example/adjoinery/adjoinery/FeatureValue")) (t' := (.object "com/example/adjoinery/adjoinery/FeatureList")) (by decide) (by decide))))
  have ke16 : Keep h0 h2 [fv] := (Keep.wr (Keep.refl h0 [fv]) W2 (Or.inl (List.mem_of_getElem? (i := 0) rfl)))
  have ke17 : Keep h0 h6 [fv] := (Keep.wr ke16 W6 (Or.inl (List.mem_of_getElem? (i := 0) rfl)))
  have ke18 : Keep h0 h10 [fv] := (Keep.wr ke17 W10 (Or.inl (List.mem_of_getElem? (i := 0) rfl)))
  obtain ⟨fs, hr, hrun, hended, hW, hsame⟩ := X10.leave (v := none) (fun _ => rfl)
  refine ⟨_, _, ?_, hrun, hended, _, _, rfl, ?_, ⟨_, rfl⟩, hW, hsame.mono (by decide) (by decide)⟩
  · exact X10.returnOut hx Bd.returns (hb hby d17_19) hr
  · show Q_fvinit1 _ _ _ _ _ _ T10.heap _
    rw [e10]
    exact ⟨rfl, N10, ke18, f12, f13, f14, f11, f15⟩
def Q_fvinit2 (Z : State) (fv : Addr) (sx : Addr) (h0 : Heap) (n0 : Nat) (vR : Option Value) (h : Heap) (L : List Loc) : Prop := vR = none ∧ Fr n0 L ∧ Keep h0 h [fv] ∧ (Exa Z h fv cFV) ∧ (Fld Z h fv cFV "atom" "Ljava/lang/String;" (.ref sx)) ∧ (Fld Z h fv cFV "alternatives" "Ljava/util/Set;" .null) ∧ (Fld Z h fv cFV "features" "Lcom/example/adjoinery/adjoinery/FeatureList;" .null) ∧ (Fld Z h fv cFV "forward" "Lcom/example/adjoinery/adjoinery/FeatureValue;" .null)
theorem ef_fvinit2 (m : MethodId) (x0 : Addr) (x1 : Addr) : entryFrame m #[(.ref x0), (.ref x1), .null, .null] 4 = mkF m 0 #[.val (.ref x0), .val (.ref x1), .val .null, .val .null] [] := by first | (simp [entryFrame, mkF, argsToLocals, Value.category]; done) | rfl
set_option maxRecDepth 65536 in
set_option maxHeartbeats 40000000 in
theorem rm_fvinit2 (l : Launch) (Z : State) (a0 : Array Value) (hw : ∀ d ∈ tables_1, d.before a0 Z = true) (ws : List Jvm.Cond) (fv : Addr) (sx : Addr) (h0 : Heap) (n0 : Nat) (Z0 : n0 ≤ h0.size) (H0 : Exa Z h0 fv cFV) (H1 : Fld Z h0 fv cFV "atom" "Ljava/lang/String;" .null) (H2 : Fld Z h0 fv cFV "alternatives" "Ljava/util/Set;" .null) (H3 : Fld Z h0 fv cFV "features" "Lcom/example/adjoinery/adjoinery/FeatureList;" .null) (H4 : Fld Z h0 fv cFV "forward" "Lcom/example/adjoinery/adjoinery/FeatureValue;" .null) (g_fv : n0 ≤ fv) :
    MetFree l (⟨"com/example/adjoinery/adjoinery/FeatureValue", "<init>", "(Ljava/lang/String;Ljava/util/Set;Lcom/example/adjoinery/adjoinery/FeatureList;)V"⟩ : MethodName) (head1 (Jvm.Cond.code (⟨"com/example/adjoinery/adjoinery/FeatureValue", "<init>", "(Ljava/lang/String;Ljava/util/Set;Lcom/example/adjoinery/adjoinery/FeatureList;)V"⟩ : MethodName) prog_22_method_1_code 4 none :: ws) ({ frames := 1, cells := 0, slots := 0, locals := 12 } : Room)) (fun a U => a = #[(.ref fv), (.ref sx), .null, .null] ∧ Z.Warmed39 U.vm ∧ U.heap = h0) (fun _ _ _ _ _ => True) (fun _ U o U' => ∃ v L, o = .returned v ∧ Q_fvinit2 Z fv sx h0 n0 v U'.heap L ∧ FrameEnd U o U' L ({ frames := 1, cells := 0, slots := 0, locals := 12 } : Room).cells ({ frames := 1, cells := 0, slots := 0, locals := 12 } : Room).slots) := by
  refine MetFree.of_bodySF (plainFor_of_name pn_com_example_adjoinery_adjoinery_FeatureValue) hisR ?_
  intro p e s m args below meth c s₁ Bd hml0 hP hK
  obtain ⟨rfl, hZ, hh⟩ := hP
  have hx := Bd.exec
  have hby := Bd.bytes
  have hml : c.maxLocals = 4 := hml0
  have hown : s.vm.findClass "com/example/adjoinery/adjoinery/FeatureValue" = some m.cls := findClass_of_methodNamed Bd.named
  have hnm := (name_of_methodNamed Bd.named Bd.method).1
  have X0 : Stand p l e ({ frames := 1, cells := 0, slots := 0, locals := 12 } : Room) s m #[(.ref fv), (.ref sx), .null, .null] below meth c s₁ [] 0 0 := Stand.of_body Bd
  have e0 : s₁.heap = h0 := by rw [← hh, Bd.state]; rfl
  have N0 := Fr.nil n0
  refine go_st (fun t k => castTop (ef_fvinit2 m fv sx) k) ?_
  show Go _ _ _ _ (s₁.setTop (mkF m 0 #[rv fv, rv sx, .val .null, .val .null] []))
  refine go_st (fun t k => XS.aloadN X0.here hx rfl (hb hby d17_0) rfl rfl k) ?_
  show Go _ _ _ _ (s₁.setTop (mkF m 1 #[rv fv, rv sx, .val .null, .val .null] [(.ref fv)]))
  obtain ⟨T1, X1, e1, st1⟩ := initO X0 hx hZ hown (w26 hw) (w13 hw) (w14 hw) e0 (g := (mkF m 1 #[rv fv, rv sx, .val .null, .val .null] [(.ref fv)])) rfl (by rw [hml]; rfl) rfl (hb hby d17_1) (by decide) (W := 0) (by show 2 * 0 + _ ≤ _; exact Nat.le_of_eq rfl) (by decide)
  refine go_st (fun t k => st1 t k) ?_
  refine go_st (fun t k => XS.aloadN X1.here hx rfl (hb hby d17_4) rfl rfl k) ?_
  refine go_st (fun t k => XS.aloadN X1.here hx rfl (hb hby d17_5) rfl rfl k) ?_
  show Go _ _ _ _ (T1.setTop (mkF m 6 #[rv fv, rv sx, .val .null, .val .null] [(.ref sx), (.ref fv)]))
  obtain ⟨T2, h2, X2, e2, W2, st2⟩ := putF X1 hx hZ hown (host := "") (Or.inl (w27 hw)) Via.refl e1 H1 H0 (Or.inr ⟨(w28 hw), rfl, hnm⟩) (w5 hw) (ty := (.object "java/lang/String")) (by decide) rfl rfl (g := (mkF m 6 #[rv fv, rv sx, .val .null, .val .null] [(.ref sx), (.ref fv)])) rfl rfl (hb hby d17_6)
  have N2 := Fr.snoc X2 N0 g_fv
  have f3 : Fld Z h2 fv cFV "atom" "Ljava/lang/String;" (.ref sx) := H1.same W2
  refine go_st (fun t k => st2 t k) ?_
  refine go_st (fun t k => XS.aloadN X2.here hx rfl (hb hby d17_9) rfl rfl k) ?_
  refine go_st (fun t k => XS.aloadN X2.here hx rfl (hb hby d17_10) rfl rfl k) ?_
  show Go _ _ _ _ (T2.setTop (mkF m 11 #[rv fv, rv sx, .val .null, .val .null] [.null, (.ref fv)]))
  have f4 : Fld Z h2 fv cFV "alternatives" "Ljava/util/Set;" .null := (H2.other W2 (Or.inr (slot_ne (Or.inr (w30 hw)) (Or.inr (w28 hw)) (by decide) (t := (.object "java/util/Set")) (t' := (.object "java/lang/String")) (by decide) (by decide))))
  have f5 : Exa Z h2 fv cFV := (H0.wr W2)
  obtain ⟨T6, h6, X6, e6, W6, st6⟩ := putF X2 hx hZ hown (host := "") (Or.inl (w29 hw)) Via.refl e2 f4 f5 (Or.inr ⟨(w30 hw), rfl, hnm⟩) (w5 hw) (ty := (.object "java/util/Set")) (by decide) rfl rfl (g := (mkF m 11 #[rv fv, rv sx, .val .null, .val .null] [.null, (.ref fv)])) rfl rfl (hb hby d17_11)
  have N6 := Fr.snoc X6 N2 g_fv
  have f7 : Fld Z h6 fv cFV "alternatives" "Ljava/util/Set;" .null := f4.same W6
  refine go_st (fun t k => st6 t k) ?_
  refine go_st (fun t k => XS.aloadN X6.here hx rfl (hb hby d17_14) rfl rfl k) ?_
  refine go_st (fun t k => XS.aloadN X6.here hx rfl (hb hby d17_15) rfl rfl k) ?_
  show Go _ _ _ _ (T6.setTop (mkF m 16 #[rv fv, rv sx, .val .null, .val .null] [.null, (.ref fv)]))
  have f8 : Fld Z h6 fv cFV "features" "Lcom/example/adjoinery/adjoinery/FeatureList;" .null := ((H3.other W2 (Or.inr (slot_ne (Or.inr (w32 hw)) (Or.inr (w28 hw)) (by decide) (t := (.object "com/example/adjoinery/adjoinery/FeatureList")) (t' := (.object "java/lang/String")) (by decide) (by decide)))).other W6 (Or.inr (slot_ne (Or.inr (w32 hw)) (Or.inr (w30 hw)) (by decide) (t := (.object "com/example/adjoinery/adjoinery/FeatureList")) (t' := (.object "java/util/Set")) (by decide) (by decide))))
  have f9 : Exa Z h6 fv cFV := (f5.wr W6)
  obtain ⟨T10, h10, X10, e10, W10, st10⟩ := putF X6 hx hZ hown (host := "") (Or.inl (w31 hw)) Via.refl e6 f8 f9 (Or.inr ⟨(w32 hw), rfl, hnm⟩) (w5 hw) (ty := (.object "com/example/adjoinery/adjoinery/FeatureList")) (by decide) rfl rfl (g := (mkF m 16 #[rv fv, rv sx, .val .null, .val .null] [.null, (.ref fv)])) rfl rfl (hb hby d17_16)
  have N10 := Fr.snoc X10 N6 g_fv
  have f11 : Fld Z h10 fv cFV "features" "Lcom/example/adjoinery/adjoinery/FeatureList;" .null := f8.same W10
  refine go_st (fun t k => st10 t k) ?_
  show Go _ _ _ _ (T10.setTop (mkF m 19 #[rv fv, rv sx, .val .null, .val .null] []))
  have f12 : Exa Z h10 fv cFV := (f9.wr W10)
  have f13 : Fld Z h10 fv cFV "atom" "Ljava/lang/String;" (.ref sx) := ((f3.other W6 (Or.inr (slot_ne (Or.inr (w28 hw)) (Or.inr (w30 hw)) (by decide) (t := (.object "java/lang/String")) (t' := (.object "java/util/Set")) (by decide) (by decide)))).other W10 (Or.inr (slot_ne (Or.inr (w28 hw)) (Or.inr (w32 hw)) (by decide) (t := (.object "java/lang/String")) (t' := (.object "com/example/adjoinery/adjoinery/FeatureList")) (by decide) (by decide))))
  have f14 : Fld Z h10 fv cFV "alternatives" "Ljava/util/Set;" .null := (f7.other W10 (Or.inr (slot_ne (Or.inr (w30 hw)) (Or.inr (w32 hw)) (by decide) (t := (.object "java/util/Set")) (t' := (.object "com/example/adjoinery/adjoinery/FeatureList")) (by decide) (by decide))))
  have f15 : Fld Z h10 fv cFV "forward" "Lcom/example/adjoinery/adjoinery/FeatureValue;" .null := (((H4.other W2 (Or.inr (slot_ne (Or.inl (w91 hw)) (Or.inr (w28 hw)) (by decide) (t := (.object "com/example/adjoinery/adjoinery/FeatureValue")) (t' := (.object "java/lang/String")) (by decide) (by decide)))).other W6 (Or.inr (slot_ne (Or.inl (w91 hw)) (Or.inr (w30 hw)) (by decide) (t := (.object "com/example/adjoinery/adjoinery/FeatureValue")) (t' := (.object "java/util/Set")) (by decide) (by decide)))).other W10 (Or.inr (slot_ne (Or.inl (w91 hw)) (Or.inr (w32 hw)) (by decide) (t := (.object "com/example/adjoinery/adjoinery/FeatureValue")) (t' := (.object "com/example/adjoinery/adjoinery/FeatureList")) (by decide) (by decide))))
  have ke16 : Keep h0 h2 [fv] := (Keep.wr (Keep.refl h0 [fv]) W2 (Or.inl (List.mem_of_getElem? (i := 0) rfl)))
  have ke17 : Keep h0 h6 [fv] := (Keep.wr ke16 W6 (Or.inl (List.mem_of_getElem? (i := 0) rfl)))
  have ke18 : Keep h0 h10 [fv] := (Keep.wr ke17 W10 (Or.inl (List.mem_of_getElem? (i := 0) rfl)))
  obtain ⟨fs, hr, hrun, hended, hW, hsame⟩ := X10.leave (v := none) (fun _ => rfl)
  refine ⟨_, _, ?_, hrun, hended, _, _, rfl, ?_, ⟨_, rfl⟩, hW, hsame.mono (by decide) (by decide)⟩
  · exact X10.returnOut hx Bd.returns (hb hby d17_19) hr
  · show Q_fvinit2 _ _ _ _ _ _ T10.heap _
    rw [e10]
    exact ⟨rfl, N10, ke18, f12, f13, f14, f11, f15⟩
def Q_mkfv (Z : State)  (h0 : Heap) (n0 : Nat) (vR : Option Value) (h : Heap) (L : List Loc) : Prop := ∃ (fv : Addr) (fl : Addr) (na : Addr) (va : Addr) (kn : ClassId) (kv : ClassId), vR = some (.ref fv) ∧ Fr n0 L ∧ Keep h0 h [] ∧ n0 ≤ fv ∧ h0.size ≤ fv ∧ n0 ≤ fl ∧ h0.size ≤ fl ∧ n0 ≤ na ∧ h0.size ≤ na ∧ n0 ≤ va ∧ h0.size ≤ va ∧ na ≠ va ∧ (Exa Z h fv cFV) ∧ (Fld Z h fv cFV "atom" "Ljava/lang/String;" .null) ∧ (Fld Z h fv cFV "alternatives" "Ljava/util/Set;" .null) ∧ (Fld Z h fv cFV "features" "Lcom/example/adjoinery/adjoinery/FeatureList;" (.ref fl)) ∧ (Fld Z h fv cFV "forward" "Lcom/example/adjoinery/adjoinery/FeatureValue;" .null) ∧ (Exa Z h fl cFL) ∧ (Fld Z h fl cFL "names" "[Ljava/lang/String;" (.ref na)) ∧ (Fld Z h fl cFL "values" "[Lcom/example/adjoinery/adjoinery/FeatureValue;" (.ref va)) ∧ (Fld Z h fl cFL "positions" "Ljava/util/Map;" .null) ∧ (Fld Z h fl cFL "size" "I" (.int 0)) ∧ (Arv Z h na kn (.object "java/lang/String") (4 : Int32) [.null, .null, .null, .null] .null) ∧ (Arv Z h va kv (.object "com/example/adjoinery/adjoinery/FeatureValue") (4 : Int32) [.null, .null, .null, .null] .null) ∧ Ovr Z kn "java/lang/String" ∧ Ovr Z kv "com/example/adjoinery/adjoinery/FeatureValue"
theorem ef_mkfv (m : MethodId)  : entryFrame m #[] 0 = mkF m 0 #[] [] := by first | (simp [entryFrame, mkF, argsToLocals, Value.category]; done) | rfl
set_option maxRecDepth 65536 in
set_option maxHeartbeats 40000000 in
theorem rm_mkfv (l : Launch) (Z : State) (a0 : Array Value) (hw : ∀ d ∈ tables_1, d.before a0 Z = true) (ws : List Jvm.Cond)  (h0 : Heap) (n0 : Nat) (Z0 : n0 ≤ h0.size)  :
    MetFree l mnS (head1 (Jvm.Cond.code mnS prog_22_method_5_code 0 (some (.object "com/example/adjoinery/adjoinery/FeatureValue")) :: ws) ({ frames := 2, cells := 4, slots := 17, locals := 30 } : Room)) (fun a U => a = #[] ∧ Z.Warmed39 U.vm ∧ U.heap = h0) (fun _ _ _ _ _ => True) (fun _ U o U' => ∃ v L, o = .returned v ∧ Q_mkfv Z h0 n0 v U'.heap L ∧ FrameEnd U o U' L ({ frames := 2, cells := 4, slots := 17, locals := 30 } : Room).cells ({ frames := 2, cells := 4, slots := 17, locals := 30 } : Room).slots) := by
  refine MetFree.of_bodySF (plainFor_of_name pn_com_example_adjoinery_adjoinery_FeatureValue) hisR ?_
  intro p e s m args below meth c s₁ Bd hml0 hP hK
  obtain ⟨rfl, hZ, hh⟩ := hP
  have hx := Bd.exec
  have hby := Bd.bytes
  have hml : c.maxLocals = 0 := hml0
  have hown : s.vm.findClass "com/example/adjoinery/adjoinery/FeatureValue" = some m.cls := findClass_of_methodNamed Bd.named
  have hnm := (name_of_methodNamed Bd.named Bd.method).1
  have X0 : Stand p l e ({ frames := 2, cells := 4, slots := 17, locals := 30 } : Room) s m #[] below meth c s₁ [] 0 0 := Stand.of_body Bd
  have e0 : s₁.heap = h0 := by rw [← hh, Bd.state]; rfl
  have N0 := Fr.nil n0
  refine go_st (fun t k => castTop (ef_mkfv m ) k) ?_
  show Go _ _ _ _ (s₁.setTop (mkF m 0 #[] []))
  obtain ⟨T1, h1, X1, e1, E1, A1, D1, -, st1⟩ := newO X0 hx hZ hown (w4 hw) (w5 hw) (w2 hw) e0 (g := (mkF m 0 #[] [])) rfl (hb hby d18_0) (by decide) (by decide)
  obtain ⟨b1, gq1⟩ : ∃ z, z = h0.size := ⟨_, rfl⟩
  rw [← gq1] at A1 D1 st1
  have f2 : Fld Z h1 b1 cFV "atom" "Ljava/lang/String;" .null := D1 (Or.inr (w28 hw)) (ty := (.object "java/lang/String")) (by decide)
  have f3 : Fld Z h1 b1 cFV "alternatives" "Ljava/util/Set;" .null := D1 (Or.inr (w30 hw)) (ty := (.object "java/util/Set")) (by decide)
  have f4 : Fld Z h1 b1 cFV "features" "Lcom/example/adjoinery/adjoinery/FeatureList;" .null := D1 (Or.inr (w32 hw)) (ty := (.object "com/example/adjoinery/adjoinery/FeatureList")) (by decide)
  have f5 : Fld Z h1 b1 cFV "forward" "Lcom/example/adjoinery/adjoinery/FeatureValue;" .null := D1 (Or.inl (w91 hw)) (ty := (.object "com/example/adjoinery/adjoinery/FeatureValue")) (by decide)
  refine go_st (fun t k => st1 t k) ?_
  refine go_st (fun t k => XS.dup X1.here hx rfl (hb hby d18_3) rfl rfl k) ?_
  refine go_st (fun t k => XS.aconstNull X1.here hx rfl (hb hby d18_4) k) ?_
  refine go_st (fun t k => XS.aconstNull X1.here hx rfl (hb hby d18_5) k) ?_
  show Go _ _ _ _ (T1.setTop (mkF m 6 #[] [.null, .null, (.ref b1), (.ref b1)]))
  obtain ⟨T6, h6, X6, e6, E6, A6, D6, -, st6⟩ := newO X1 hx hZ hown (w6 hw) (w7 hw) (w8 hw) e1 (g := (mkF m 6 #[] [.null, .null, (.ref b1), (.ref b1)])) rfl (hb hby d18_6) (by decide) (by decide)
  obtain ⟨b6, gq6⟩ : ∃ z, z = h1.size := ⟨_, rfl⟩
  rw [← gq6] at A6 D6 st6
  have f7 : Fld Z h6 b6 cFL "names" "[Ljava/lang/String;" .null := D6 (Or.inl (w18 hw)) (ty := (.array (.object "java/lang/String"))) (by decide)
  have f8 : Fld Z h6 b6 cFL "values" "[Lcom/example/adjoinery/adjoinery/FeatureValue;" .null := D6 (Or.inl (w22 hw)) (ty := (.array (.object "com/example/adjoinery/adjoinery/FeatureValue"))) (by decide)
  have f9 : Fld Z h6 b6 cFL "positions" "Ljava/util/Map;" .null := D6 (Or.inl (w121 hw)) (ty := (.object "java/util/Map")) (by decide)
  have f10 : Fld Z h6 b6 cFL "size" "I" (.int 0) := D6 (Or.inl (w123 hw)) (ty := .int) (by decide)
  refine go_st (fun t k => st6 t k) ?_
  refine go_st (fun t k => XS.dup X6.here hx rfl (hb hby d18_9) rfl rfl k) ?_
  refine go_st (fun t k => XS.iconst X6.here hx rfl (hb hby d18_10) k) ?_
  show Go _ _ _ _ (T6.setTop (mkF m 11 #[] [(.int 4), (.ref b6), (.ref b6), .null, .null, (.ref b1), (.ref b1)]))
  have g_b6 : n0 ≤ b6 := Nat.le_trans (Nat.le_trans Z0 E1.1) (Nat.le_of_eq gq6.symm)
  have sz11 : h0.size ≤ h6.size := (Nat.le_trans E1.1 E6.1)
  obtain ⟨_, _, ⟨T12, L12, kk12, nn12⟩, -, X12, ⟨Lc12, hQ12, lq12, yq12, zq12⟩, st12⟩ := X6.specialBack hx (y := (⟨"com/example/adjoinery/adjoinery/FeatureList", "<init>", "(I)V"⟩ : MethodName)) rfl hown (mvT hZ (w9 hw)) (mvT hZ (w10 hw)) (mvT hZ (w11 hw)) (by decide) (backOf (W := 5) (rm_flinit l Z a0 hw [] b6 h6 n0 (Nat.le_trans Z0 sz11) A6 f7 f8 f9 f10 g_b6) hZ (w11 hw) (w8 hw) (by decide) (by decide)) (g := (mkF m 11 #[] [(.int 4), (.ref b6), (.ref b6), .null, .null, (.ref b1), (.ref b1)])) rfl (by rw [hml]; rfl) (Steps.refl _) (a := b6) (argsL := [(.int 4)]) (rest := [(.ref b6), .null, .null, (.ref b1), (.ref b1)]) (lenOf pd_7 rfl) rfl (by show 2 * 0 + _ ≤ _; exact Nat.le_of_eq rfl) (hb hby d18_11) (fun _ _ => ⟨rfl, e6, (by decide : 2 + 2 ≤ _), (by decide : 9 + 8 ≤ _)⟩)
  dsimp only [Pt.U, Pt.locs, Pt.cells, Pt.slots] at X12 lq12 yq12 zq12 st12 hQ12
  subst lq12 yq12 zq12
  obtain ⟨h12, e12⟩ : ∃ z, T12.heap = z := ⟨_, rfl⟩
  rw [e12] at hQ12
  obtain ⟨na_12, va_12, kn_12, kv_12, rfl, N12q, K12, gf12_0, lf12_0, gf12_1, lf12_1, nx12_2, p12_3, p12_4, p12_5, p12_6, p12_7, p12_8, p12_9, ov12_10, ov12_11⟩ := hQ12
  have N12 := Fr.app N0 N12q
  refine go_tr st12 ?_
  show Go _ _ _ _ (T12.setTop (mkF m 14 #[] [(.ref b6), .null, .null, (.ref b1), (.ref b1)]))
  have f13 : Exa Z h12 b1 cFV := ((A1.ext E6).keep K12)
  have nq14 : b1 ≠ b6 := Nat.ne_of_lt (Nat.lt_of_lt_of_le (Nat.lt_of_lt_of_le A1.lt (Nat.le_refl _)) (Nat.le_of_eq gq6.symm))
  have f15 : Fld Z h12 b1 cFV "atom" "Ljava/lang/String;" .null := ((f2.ext E6).keep K12 (ninS nq14 nin0))
  have f16 : Fld Z h12 b1 cFV "alternatives" "Ljava/util/Set;" .null := ((f3.ext E6).keep K12 (ninS nq14 nin0))
  have f17 : Fld Z h12 b1 cFV "features" "Lcom/example/adjoinery/adjoinery/FeatureList;" .null := ((f4.ext E6).keep K12 (ninS nq14 nin0))
  have f18 : Fld Z h12 b1 cFV "forward" "Lcom/example/adjoinery/adjoinery/FeatureValue;" .null := ((f5.ext E6).keep K12 (ninS nq14 nin0))
  have g_b1 : n0 ≤ b1 := Nat.le_trans (Nat.le_trans Z0 (Nat.le_refl _)) (Nat.le_of_eq gq1.symm)
  have sz19 : h0.size ≤ h12.size := (Nat.le_trans sz11 K12.1)
  obtain ⟨_, _, ⟨T20, L20, kk20, nn20⟩, -, X20, ⟨Lc20, hQ20, lq20, yq20, zq20⟩, st20⟩ := X12.specialBack hx (y := (⟨"com/example/adjoinery/adjoinery/FeatureValue", "<init>", "(Ljava/lang/String;Ljava/util/Set;Lcom/example/adjoinery/adjoinery/FeatureList;)V"⟩ : MethodName)) rfl hown (mvT hZ (w23 hw)) (mvT hZ (w24 hw)) (mvT hZ (w25 hw)) (by decide) (backOf (W := 1) (rm_fvinit1 l Z a0 hw [] b1 b6 h12 n0 (Nat.le_trans Z0 sz19) f13 f15 f16 f17 f18 g_b1) hZ (w25 hw) (w2 hw) (by decide) (by decide)) (g := (mkF m 14 #[] [(.ref b6), .null, .null, (.ref b1), (.ref b1)])) rfl (by rw [hml]; rfl) (Steps.refl _) (a := b1) (argsL := [.null, .null, (.ref b6)]) (rest := [(.ref b1)]) (lenOf pd_8 rfl) rfl (by show 2 * 0 + _ ≤ _; exact Nat.le_of_eq rfl) (hb hby d18_14) (fun _ _ => ⟨rfl, e12, (by decide : 4 + 0 ≤ _), (by decide : 17 + 0 ≤ _)⟩)
  dsimp only [Pt.U, Pt.locs, Pt.cells, Pt.slots] at X20 lq20 yq20 zq20 st20 hQ20
  subst lq20 yq20 zq20
  obtain ⟨h20, e20⟩ : ∃ z, T20.heap = z := ⟨_, rfl⟩
  rw [e20] at hQ20
  obtain ⟨rfl, N20q, K20, p20_0, p20_1, p20_2, p20_3, p20_4⟩ := hQ20
  have N20 := Fr.app N12 N20q
  refine go_tr st20 ?_
  show Go _ _ _ _ (T20.setTop (mkF m 17 #[] [(.ref b1)]))
  have f21 : Exa Z h20 b6 cFL := (p12_3.keep K20)
  have f22 : Fld Z h20 b6 cFL "names" "[Ljava/lang/String;" (.ref na_12) := (p12_4.keep K20 (ninS (Ne.symm nq14) nin0))
  have f23 : Fld Z h20 b6 cFL "values" "[Lcom/example/adjoinery/adjoinery/FeatureValue;" (.ref va_12) := (p12_5.keep K20 (ninS (Ne.symm nq14) nin0))
  have f24 : Fld Z h20 b6 cFL "positions" "Ljava/util/Map;" .null := (p12_6.keep K20 (ninS (Ne.symm nq14) nin0))
  have f25 : Fld Z h20 b6 cFL "size" "I" (.int 0) := (p12_7.keep K20 (ninS (Ne.symm nq14) nin0))
  have nq26 : b1 ≠ na_12 := Nat.ne_of_lt (Nat.lt_of_lt_of_le (Nat.lt_of_lt_of_le A1.lt E6.1) lf12_0)
  have f27 : Arv Z h20 na_12 kn_12 (.object "java/lang/String") (4 : Int32) [.null, .null, .null, .null] .null := (p12_8.keep K20 (ninS (Ne.symm nq26) nin0))
  have nq28 : b1 ≠ va_12 := Nat.ne_of_lt (Nat.lt_of_lt_of_le (Nat.lt_of_lt_of_le A1.lt E6.1) lf12_1)
  have f29 : Arv Z h20 va_12 kv_12 (.object "com/example/adjoinery/adjoinery/FeatureValue") (4 : Int32) [.null, .null, .null, .null] .null := (p12_9.keep K20 (ninS (Ne.symm nq28) nin0))
  have ke30 : Keep h0 h1 [] := (Keep.ext (Keep.refl h0 []) E1)
  have ke31 : Keep h0 h6 [] := (Keep.ext ke30 E6)
  have ke32 : Keep h0 h12 [] := (Keep.trans ke31 K12 (allS (Or.inr (Nat.le_trans E1.1 (Nat.le_of_eq gq6.symm))) all0))
  have ke33 : Keep h0 h20 [] := (Keep.trans ke32 K20 (allS (Or.inr (Nat.le_of_eq gq1.symm)) all0))
  obtain ⟨fs, hr, hrun, hended, hW, hsame⟩ := X20.leave (v := some (.ref b1)) (fun h => by rw [Bd.returns] at h; cases h)
  refine ⟨_, _, ?_, hrun, hended, _, _, rfl, ?_, ⟨_, rfl⟩, hW, hsame.mono (by decide) (by decide)⟩
  · exact retOut X20 hx Bd.returns rfl (Or.inr (Or.inr (Or.inr (Or.inr ⟨rfl, rfl, rfl⟩)))) (hb hby d18_17) hr
  · show Q_mkfv _ _ _ _ T20.heap _
    rw [e20]
    exact ⟨b1, b6, na_12, va_12, kn_12, kv_12, rfl, N20, ke33, g_b1, (Nat.le_of_eq gq1.symm), g_b6, (Nat.le_trans E1.1 (Nat.le_of_eq gq6.symm)), gf12_0, (Nat.le_trans sz11 lf12_0), gf12_1, (Nat.le_trans sz11 lf12_1), nx12_2, p20_0, p20_1, p20_2, p20_3, p20_4, f21, f22, f23, f24, f25, f27, f29, ov12_10, ov12_11⟩
def Q_resolve (Z : State) (fv : Addr) (h0 : Heap) (n0 : Nat) (vR : Option Value) (h : Heap) (L : List Loc) : Prop := vR = some (.ref fv) ∧ Fr n0 L ∧ h = h0
theorem ef_resolve (m : MethodId) (x0 : Addr) : entryFrame m #[(.ref x0)] 2 = mkF m 0 #[.val (.ref x0), .unset] [] := by first | (simp [entryFrame, mkF, argsToLocals, Value.category]; done) | rfl
set_option maxRecDepth 65536 in
set_option maxHeartbeats 40000000 in
theorem rm_resolve (l : Launch) (Z : State) (a0 : Array Value) (hw : ∀ d ∈ tables_1, d.before a0 Z = true) (ws : List Jvm.Cond) (fv : Addr) (h0 : Heap) (n0 : Nat) (Z0 : n0 ≤ h0.size) (H0 : Exa Z h0 fv cFV) (H1 : Fld Z h0 fv cFV "forward" "Lcom/example/adjoinery/adjoinery/FeatureValue;" .null) :
    MetFree l (⟨"com/example/adjoinery/adjoinery/FeatureValue", "resolve", "()Lcom/example/adjoinery/adjoinery/FeatureValue;"⟩ : MethodName) (head1 (Jvm.Cond.code (⟨"com/example/adjoinery/adjoinery/FeatureValue", "resolve", "()Lcom/example/adjoinery/adjoinery/FeatureValue;"⟩ : MethodName) prog_22_method_23_code 2 (some (.object "com/example/adjoinery/adjoinery/FeatureValue")) :: ws) ({ frames := 0, cells := 0, slots := 0, locals := 0 } : Room)) (fun a U => a = #[(.ref fv)] ∧ Z.Warmed39 U.vm ∧ U.heap = h0) (fun _ _ _ _ _ => True) (fun _ U o U' => ∃ v L, o = .returned v ∧ Q_resolve Z fv h0 n0 v U'.heap L ∧ FrameEnd U o U' L ({ frames := 0, cells := 0, slots := 0, locals := 0 } : Room).cells ({ frames := 0, cells := 0, slots := 0, locals := 0 } : Room).slots) := by
  refine MetFree.of_bodySF (plainFor_of_name pn_com_example_adjoinery_adjoinery_FeatureValue) hisR ?_
  intro p e s m args below meth c s₁ Bd hml0 hP hK
  obtain ⟨rfl, hZ, hh⟩ := hP
  have hx := Bd.exec
  have hby := Bd.bytes
  have hml : c.maxLocals = 2 := hml0
  have hown : s.vm.findClass "com/example/adjoinery/adjoinery/FeatureValue" = some m.cls := findClass_of_methodNamed Bd.named
  have hnm := (name_of_methodNamed Bd.named Bd.method).1
  have X0 : Stand p l e ({ frames := 0, cells := 0, slots := 0, locals := 0 } : Room) s m #[(.ref fv)] below meth c s₁ [] 0 0 := Stand.of_body Bd
  have e0 : s₁.heap = h0 := by rw [← hh, Bd.state]; rfl
  have N0 := Fr.nil n0
  refine go_st (fun t k => castTop (ef_resolve m fv) k) ?_
  show Go _ _ _ _ (s₁.setTop (mkF m 0 #[rv fv, .unset] []))
  refine go_st (fun t k => XS.aloadN X0.here hx rfl (hb hby d19_0) rfl rfl k) ?_
  refine go_st (fun t k => XS.astoreN X0.here hx rfl (hb hby d19_1) rfl rfl (l' := #[rv fv, rv fv]) rfl k) ?_
  refine go_st (fun t k => XS.aloadN X0.here hx rfl (hb hby d19_2) rfl rfl k) ?_
  show Go _ _ _ _ (s₁.setTop (mkF m 3 #[rv fv, rv fv] [(.ref fv)]))
  obtain ⟨T1, X1, e1, st1⟩ := getF X0 hx hZ hown (host := "") (Or.inl (w90 hw)) Via.refl e0 H1 (g := (mkF m 3 #[rv fv, rv fv] [(.ref fv)])) rfl rfl (hb hby d19_3)
  refine go_st (fun t k => st1 t k) ?_
  show Go _ _ _ _ (T1.setTop (mkF m 6 #[rv fv, rv fv] [.null]))
  refine go_st (fun t k => XS.ifnullYes X1.here hx rfl (pc0 := 6) (pc' := 17) rfl (hb hby d19_6) rfl (by decide) (by decide) k) ?_
  show Go _ _ _ _ (T1.setTop (mkF m 17 #[rv fv, rv fv] []))
  refine go_st (fun t k => XS.aloadN X1.here hx rfl (hb hby d19_17) rfl rfl k) ?_
  show Go _ _ _ _ (T1.setTop (mkF m 18 #[rv fv, rv fv] [(.ref fv)]))
  obtain ⟨fs, hr, hrun, hended, hW, hsame⟩ := X1.leave (v := some (.ref fv)) (fun h => by rw [Bd.returns] at h; cases h)
  refine ⟨_, _, ?_, hrun, hended, _, _, rfl, ?_, ⟨_, rfl⟩, hW, hsame.mono (by decide) (by decide)⟩
  · exact retOut X1 hx Bd.returns rfl (Or.inr (Or.inr (Or.inr (Or.inr ⟨rfl, rfl, rfl⟩)))) (hb hby d19_18) hr
  · show Q_resolve _ _ _ _ _ T1.heap _
    rw [e1]
    exact ⟨rfl, N0, rfl⟩
def Q_get_isStructure (Z : State) (fv : Addr) (fl : Addr) (h0 : Heap) (n0 : Nat) (vR : Option Value) (h : Heap) (L : List Loc) : Prop := vR = some (.int 1) ∧ Fr n0 L ∧ h = h0
theorem ef_get_isStructure (m : MethodId) (x0 : Addr) : entryFrame m #[(.ref x0)] 1 = mkF m 0 #[.val (.ref x0)] [] := by first | (simp [entryFrame, mkF, argsToLocals, Value.category]; done) | rfl
set_option maxRecDepth 65536 in
set_option maxHeartbeats 40000000 in
theorem rm_get_isStructure (l : Launch) (Z : State) (a0 : Array Value) (hw : ∀ d ∈ tables_1, d.before a0 Z = true) (ws : List Jvm.Cond) (fv : Addr) (fl : Addr) (h0 : Heap) (n0 : Nat) (Z0 : n0 ≤ h0.size) (H0 : Exa Z h0 fv cFV) (H1 : Fld Z h0 fv cFV "atom" "Ljava/lang/String;" .null) (H2 : Fld Z h0 fv cFV "alternatives" "Ljava/util/Set;" .null) (H3 : Fld Z h0 fv cFV "features" "Lcom/example/adjoinery/adjoinery/FeatureList;" (.ref fl)) (H4 : Fld Z h0 fv cFV "forward" "Lcom/example/adjoinery/adjoinery/FeatureValue;" .null) :
    MetFree l (⟨"com/example/adjoinery/adjoinery/FeatureValue", "isStructure", "()Z"⟩ : MethodName) (head1 (Jvm.Cond.code (⟨"com/example/adjoinery/adjoinery/FeatureValue", "isStructure", "()Z"⟩ : MethodName) prog_22_method_11_code 1 (some .boolean) :: ws) ({ frames := 1, cells := 0, slots := 0, locals := 13 } : Room)) (fun a U => a = #[(.ref fv)] ∧ Z.Warmed39 U.vm ∧ U.heap = h0) (fun _ _ _ _ _ => True) (fun _ U o U' => ∃ v L, o = .returned v ∧ Q_get_isStructure Z fv fl h0 n0 v U'.heap L ∧ FrameEnd U o U' L ({ frames := 1, cells := 0, slots := 0, locals := 13 } : Room).cells ({ frames := 1, cells := 0, slots := 0, locals := 13 } : Room).slots) := by
  refine MetFree.of_bodySF (plainFor_of_name pn_com_example_adjoinery_adjoinery_FeatureValue) hisR ?_
  intro p e s m args below meth c s₁ Bd hml0 hP hK
  obtain ⟨rfl, hZ, hh⟩ := hP
  have hx := Bd.exec
  have hby := Bd.bytes
  have hml : c.maxLocals = 1 := hml0
  have hown : s.vm.findClass "com/example/adjoinery/adjoinery/FeatureValue" = some m.cls := findClass_of_methodNamed Bd.named
  have hnm := (name_of_methodNamed Bd.named Bd.method).1
  have X0 : Stand p l e ({ frames := 1, cells := 0, slots := 0, locals := 13 } : Room) s m #[(.ref fv)] below meth c s₁ [] 0 0 := Stand.of_body Bd
  have e0 : s₁.heap = h0 := by rw [← hh, Bd.state]; rfl
  have N0 := Fr.nil n0
  refine go_st (fun t k => castTop (ef_get_isStructure m fv) k) ?_
  show Go _ _ _ _ (s₁.setTop (mkF m 0 #[rv fv] []))
  refine go_st (fun t k => XS.aloadN X0.here hx rfl (hb hby d20_0) rfl rfl k) ?_
  show Go _ _ _ _ (s₁.setTop (mkF m 1 #[rv fv] [(.ref fv)]))
  obtain ⟨cq1, kq1, q1a, q1b, q1c⟩ := isOf hZ e0 H0
  obtain ⟨_, _, ⟨T1, L1, kk1, nn1⟩, -, X1, ⟨Lc1, hQ1, lq1, yq1, zq1⟩, st1⟩ := X0.virtualBack hx (y := (⟨"com/example/adjoinery/adjoinery/FeatureValue", "resolve", "()Lcom/example/adjoinery/adjoinery/FeatureValue;"⟩ : MethodName)) (z := (⟨"com/example/adjoinery/adjoinery/FeatureValue", "resolve", "()Lcom/example/adjoinery/adjoinery/FeatureValue;"⟩ : MethodName)) hown (mvT hZ (w85 hw)) (mvT hZ (w86 hw)) (nf_same (y := (⟨"com/example/adjoinery/adjoinery/FeatureValue", "resolve", "()Lcom/example/adjoinery/adjoinery/FeatureValue;"⟩ : MethodName)) (y' := (⟨"com/example/adjoinery/adjoinery/FeatureValue", "isStructure", "()Z"⟩ : MethodName)) (a0 := #[]) rfl (mvT hZ (w82 hw)) (notFace_of_selects (args := #[]) (mvT hZ (w83 hw)))) (mvT hZ (w88 hw)) (mvT hZ (w87 hw)) (by decide) (backOf (W := 0) (rm_resolve l Z a0 hw [] fv h0 n0 (Nat.le_trans Z0 (Nat.le_refl _)) H0 H4) hZ (w89 hw) (w2 hw) (by decide) (by decide)) q1a q1c (g := (mkF m 1 #[rv fv] [(.ref fv)])) rfl (by rw [hml]; rfl) (Steps.refl _) (argsL := []) (rest := []) (lenOf pd_9 rfl) rfl (by show 2 * 0 + _ ≤ _; exact Nat.le_of_eq rfl) (hb hby d20_1) (fun _ _ => ⟨rfl, e0, (by decide : 0 + 0 ≤ _), (by decide : 0 + 0 ≤ _)⟩)
  dsimp only [Pt.U, Pt.locs, Pt.cells, Pt.slots] at X1 lq1 yq1 zq1 st1 hQ1
  subst lq1 yq1 zq1
  obtain ⟨h1, e1⟩ : ∃ z, T1.heap = z := ⟨_, rfl⟩
  rw [e1] at hQ1
  obtain ⟨rfl, N1q, he1⟩ := hQ1
  have N1 := Fr.app N0 N1q
  rw [he1] at e1
  refine go_tr st1 ?_
  show Go _ _ _ _ (T1.setTop (mkF m 4 #[rv fv] [(.ref fv)]))
  obtain ⟨T2, X2, e2, st2⟩ := getF X1 hx hZ hown (host := "") (Or.inl (w31 hw)) Via.refl e1 H3 (g := (mkF m 4 #[rv fv] [(.ref fv)])) rfl rfl (hb hby d20_4)
  refine go_st (fun t k => st2 t k) ?_
  show Go _ _ _ _ (T2.setTop (mkF m 7 #[rv fv] [(.ref fl)]))
  refine go_st (fun t k => XS.ifnullNo X2.here hx rfl (hb hby d20_7) rfl k) ?_
  show Go _ _ _ _ (T2.setTop (mkF m 10 #[rv fv] []))
  refine go_st (fun t k => XS.iconst X2.here hx rfl (hb hby d20_10) k) ?_
  refine go_st (fun t k => XS.goto X2.here hx rfl (pc0 := 11) (pc' := 15) rfl (hb hby d20_11) (by decide) (by decide) k) ?_
  show Go _ _ _ _ (T2.setTop (mkF m 15 #[rv fv] [(.int 1)]))
  obtain ⟨fs, hr, hrun, hended, hW, hsame⟩ := X2.leave (v := some (.int 1)) (fun h => by rw [Bd.returns] at h; cases h)
  refine ⟨_, _, ?_, hrun, hended, _, _, rfl, ?_, ⟨_, rfl⟩, hW, hsame.mono (by decide) (by decide)⟩
  · exact retN X2 hx (t := .boolean) Bd.returns (by simp) (hb hby d20_15) hr
  · show Q_get_isStructure _ _ _ _ _ _ T2.heap _
    rw [e2]
    exact ⟨rfl, N1, rfl⟩
def Q_get_isVariable (Z : State) (fv : Addr) (fl : Addr) (h0 : Heap) (n0 : Nat) (vR : Option Value) (h : Heap) (L : List Loc) : Prop := vR = some (.int 0) ∧ Fr n0 L ∧ h = h0
theorem ef_get_isVariable (m : MethodId) (x0 : Addr) : entryFrame m #[(.ref x0)] 1 = mkF m 0 #[.val (.ref x0)] [] := by first | (simp [entryFrame, mkF, argsToLocals, Value.category]; done) | rfl
set_option maxRecDepth 65536 in
set_option maxHeartbeats 40000000 in
theorem rm_get_isVariable (l : Launch) (Z : State) (a0 : Array Value) (hw : ∀ d ∈ tables_1, d.before a0 Z = true) (ws : List Jvm.Cond) (fv : Addr) (fl : Addr) (h0 : Heap) (n0 : Nat) (Z0 : n0 ≤ h0.size) (H0 : Exa Z h0 fv cFV) (H1 : Fld Z h0 fv cFV "atom" "Ljava/lang/String;" .null) (H2 : Fld Z h0 fv cFV "alternatives" "Ljava/util/Set;" .null) (H3 : Fld Z h0 fv cFV "features" "Lcom/example/adjoinery/adjoinery/FeatureList;" (.ref fl)) (H4 : Fld Z h0 fv cFV "forward" "Lcom/example/adjoinery/adjoinery/FeatureValue;" .null) :
    MetFree l (⟨"com/example/adjoinery/adjoinery/FeatureValue", "isVariable", "()Z"⟩ : MethodName) (head1 (Jvm.Cond.code (⟨"com/example/adjoinery/adjoinery/FeatureValue", "isVariable", "()Z"⟩ : MethodName) prog_22_method_18_code 1 (some .boolean) :: ws) ({ frames := 0, cells := 0, slots := 0, locals := 0 } : Room)) (fun a U => a = #[(.ref fv)] ∧ Z.Warmed39 U.vm ∧ U.heap = h0) (fun _ _ _ _ _ => True) (fun _ U o U' => ∃ v L, o = .returned v ∧ Q_get_isVariable Z fv fl h0 n0 v U'.heap L ∧ FrameEnd U o U' L ({ frames := 0, cells := 0, slots := 0, locals := 0 } : Room).cells ({ frames := 0, cells := 0, slots := 0, locals := 0 } : Room).slots) := by
  refine MetFree.of_bodySF (plainFor_of_name pn_com_example_adjoinery_adjoinery_FeatureValue) hisR ?_
  intro p e s m args below meth c s₁ Bd hml0 hP hK
  obtain ⟨rfl, hZ, hh⟩ := hP
  have hx := Bd.exec
  have hby := Bd.bytes
  have hml : c.maxLocals = 1 := hml0
  have hown : s.vm.findClass "com/example/adjoinery/adjoinery/FeatureValue" = some m.cls := findClass_of_methodNamed Bd.named
  have hnm := (name_of_methodNamed Bd.named Bd.method).1
  have X0 : Stand p l e ({ frames := 0, cells := 0, slots := 0, locals := 0 } : Room) s m #[(.ref fv)] below meth c s₁ [] 0 0 := Stand.of_body Bd
  have e0 : s₁.heap = h0 := by rw [← hh, Bd.state]; rfl
  have N0 := Fr.nil n0
  refine go_st (fun t k => castTop (ef_get_isVariable m fv) k) ?_
  show Go _ _ _ _ (s₁.setTop (mkF m 0 #[rv fv] []))
  refine go_st (fun t k => XS.aloadN X0.here hx rfl (hb hby d21_0) rfl rfl k) ?_
  show Go _ _ _ _ (s₁.setTop (mkF m 1 #[rv fv] [(.ref fv)]))
  obtain ⟨T1, X1, e1, st1⟩ := getF X0 hx hZ hown (host := "") (Or.inl (w27 hw)) Via.refl e0 H1 (g := (mkF m 1 #[rv fv] [(.ref fv)])) rfl rfl (hb hby d21_1)
  refine go_st (fun t k => st1 t k) ?_
  show Go _ _ _ _ (T1.setTop (mkF m 4 #[rv fv] [.null]))
  refine go_st (fun t k => XS.ifnonnullNo X1.here hx rfl (hb hby d21_4) rfl k) ?_
  show Go _ _ _ _ (T1.setTop (mkF m 7 #[rv fv] []))
  refine go_st (fun t k => XS.aloadN X1.here hx rfl (hb hby d21_7) rfl rfl k) ?_
  show Go _ _ _ _ (T1.setTop (mkF m 8 #[rv fv] [(.ref fv)]))
  obtain ⟨T2, X2, e2, st2⟩ := getF X1 hx hZ hown (host := "") (Or.inl (w29 hw)) Via.refl e1 H2 (g := (mkF m 8 #[rv fv] [(.ref fv)])) rfl rfl (hb hby d21_8)
  refine go_st (fun t k => st2 t k) ?_
  show Go _ _ _ _ (T2.setTop (mkF m 11 #[rv fv] [.null]))
  refine go_st (fun t k => XS.ifnonnullNo X2.here hx rfl (hb hby d21_11) rfl k) ?_
  show Go _ _ _ _ (T2.setTop (mkF m 14 #[rv fv] []))
  refine go_st (fun t k => XS.aloadN X2.here hx rfl (hb hby d21_14) rfl rfl k) ?_
  show Go _ _ _ _ (T2.setTop (mkF m 15 #[rv fv] [(.ref fv)]))
  obtain ⟨T3, X3, e3, st3⟩ := getF X2 hx hZ hown (host := "") (Or.inl (w31 hw)) Via.refl e2 H3 (g := (mkF m 15 #[rv fv] [(.ref fv)])) rfl rfl (hb hby d21_15)
  refine go_st (fun t k => st3 t k) ?_
  show Go _ _ _ _ (T3.setTop (mkF m 18 #[rv fv] [(.ref fl)]))
  refine go_st (fun t k => XS.ifnonnullYes X3.here hx rfl (pc0 := 18) (pc' := 25) rfl (hb hby d21_18) rfl (by decide) (by decide) k) ?_
  show Go _ _ _ _ (T3.setTop (mkF m 25 #[rv fv] []))
  refine go_st (fun t k => XS.iconst X3.here hx rfl (hb hby d21_25) k) ?_
  show Go _ _ _ _ (T3.setTop (mkF m 26 #[rv fv] [(.int 0)]))
  obtain ⟨fs, hr, hrun, hended, hW, hsame⟩ := X3.leave (v := some (.int 0)) (fun h => by rw [Bd.returns] at h; cases h)
  refine ⟨_, _, ?_, hrun, hended, _, _, rfl, ?_, ⟨_, rfl⟩, hW, hsame.mono (by decide) (by decide)⟩
  · exact retN X3 hx (t := .boolean) Bd.returns (by simp) (hb hby d21_26) hr
  · show Q_get_isVariable _ _ _ _ _ _ T3.heap _
    rw [e3]
    exact ⟨rfl, N0, rfl⟩
def Q_get_isUnbound (Z : State) (fv : Addr) (fl : Addr) (h0 : Heap) (n0 : Nat) (vR : Option Value) (h : Heap) (L : List Loc) : Prop := vR = some (.int 0) ∧ Fr n0 L ∧ h = h0
theorem ef_get_isUnbound (m : MethodId) (x0 : Addr) : entryFrame m #[(.ref x0)] 1 = mkF m 0 #[.val (.ref x0)] [] := by first | (simp [entryFrame, mkF, argsToLocals, Value.category]; done) | rfl
set_option maxRecDepth 65536 in
set_option maxHeartbeats 40000000 in
theorem rm_get_isUnbound (l : Launch) (Z : State) (a0 : Array Value) (hw : ∀ d ∈ tables_1, d.before a0 Z = true) (ws : List Jvm.Cond) (fv : Addr) (fl : Addr) (h0 : Heap) (n0 : Nat) (Z0 : n0 ≤ h0.size) (H0 : Exa Z h0 fv cFV) (H1 : Fld Z h0 fv cFV "atom" "Ljava/lang/String;" .null) (H2 : Fld Z h0 fv cFV "alternatives" "Ljava/util/Set;" .null) (H3 : Fld Z h0 fv cFV "features" "Lcom/example/adjoinery/adjoinery/FeatureList;" (.ref fl)) (H4 : Fld Z h0 fv cFV "forward" "Lcom/example/adjoinery/adjoinery/FeatureValue;" .null) :
    MetFree l (⟨"com/example/adjoinery/adjoinery/FeatureValue", "isUnbound", "()Z"⟩ : MethodName) (head1 (Jvm.Cond.code (⟨"com/example/adjoinery/adjoinery/FeatureValue", "isUnbound", "()Z"⟩ : MethodName) prog_22_method_10_code 1 (some .boolean) :: ws) ({ frames := 1, cells := 0, slots := 0, locals := 13 } : Room)) (fun a U => a = #[(.ref fv)] ∧ Z.Warmed39 U.vm ∧ U.heap = h0) (fun _ _ _ _ _ => True) (fun _ U o U' => ∃ v L, o = .returned v ∧ Q_get_isUnbound Z fv fl h0 n0 v U'.heap L ∧ FrameEnd U o U' L ({ frames := 1, cells := 0, slots := 0, locals := 13 } : Room).cells ({ frames := 1, cells := 0, slots := 0, locals := 13 } : Room).slots) := by
  refine MetFree.of_bodySF (plainFor_of_name pn_com_example_adjoinery_adjoinery_FeatureValue) hisR ?_
  intro p e s m args below meth c s₁ Bd hml0 hP hK
  obtain ⟨rfl, hZ, hh⟩ := hP
  have hx := Bd.exec
  have hby := Bd.bytes
  have hml : c.maxLocals = 1 := hml0
  have hown : s.vm.findClass "com/example/adjoinery/adjoinery/FeatureValue" = some m.cls := findClass_of_methodNamed Bd.named
  have hnm := (name_of_methodNamed Bd.named Bd.method).1
  have X0 : Stand p l e ({ frames := 1, cells := 0, slots := 0, locals := 13 } : Room) s m #[(.ref fv)] below meth c s₁ [] 0 0 := Stand.of_body Bd
  have e0 : s₁.heap = h0 := by rw [← hh, Bd.state]; rfl
  have N0 := Fr.nil n0
  refine go_st (fun t k => castTop (ef_get_isUnbound m fv) k) ?_
  show Go _ _ _ _ (s₁.setTop (mkF m 0 #[rv fv] []))
  refine go_st (fun t k => XS.aloadN X0.here hx rfl (hb hby d22_0) rfl rfl k) ?_
  show Go _ _ _ _ (s₁.setTop (mkF m 1 #[rv fv] [(.ref fv)]))
  obtain ⟨cq1, kq1, q1a, q1b, q1c⟩ := isOf hZ e0 H0
  obtain ⟨_, _, ⟨T1, L1, kk1, nn1⟩, -, X1, ⟨Lc1, hQ1, lq1, yq1, zq1⟩, st1⟩ := X0.virtualBack hx (y := (⟨"com/example/adjoinery/adjoinery/FeatureValue", "resolve", "()Lcom/example/adjoinery/adjoinery/FeatureValue;"⟩ : MethodName)) (z := (⟨"com/example/adjoinery/adjoinery/FeatureValue", "resolve", "()Lcom/example/adjoinery/adjoinery/FeatureValue;"⟩ : MethodName)) hown (mvT hZ (w85 hw)) (mvT hZ (w86 hw)) (nf_same (y := (⟨"com/example/adjoinery/adjoinery/FeatureValue", "resolve", "()Lcom/example/adjoinery/adjoinery/FeatureValue;"⟩ : MethodName)) (y' := (⟨"com/example/adjoinery/adjoinery/FeatureValue", "isStructure", "()Z"⟩ : MethodName)) (a0 := #[]) rfl (mvT hZ (w82 hw)) (notFace_of_selects (args := #[]) (mvT hZ (w83 hw)))) (mvT hZ (w88 hw)) (mvT hZ (w87 hw)) (by decide) (backOf (W := 0) (rm_resolve l Z a0 hw [] fv h0 n0 (Nat.le_trans Z0 (Nat.le_refl _)) H0 H4) hZ (w89 hw) (w2 hw) (by decide) (by decide)) q1a q1c (g := (mkF m 1 #[rv fv] [(.ref fv)])) rfl (by rw [hml]; rfl) (Steps.refl _) (argsL := []) (rest := []) (lenOf pd_9 rfl) rfl (by show 2 * 0 + _ ≤ _; exact Nat.le_of_eq rfl) (hb hby d22_1) (fun _ _ => ⟨rfl, e0, (by decide : 0 + 0 ≤ _), (by decide : 0 + 0 ≤ _)⟩)
  dsimp only [Pt.U, Pt.locs, Pt.cells, Pt.slots] at X1 lq1 yq1 zq1 st1 hQ1
  subst lq1 yq1 zq1
  obtain ⟨h1, e1⟩ : ∃ z, T1.heap = z := ⟨_, rfl⟩
  rw [e1] at hQ1
  obtain ⟨rfl, N1q, he1⟩ := hQ1
  have N1 := Fr.app N0 N1q
  rw [he1] at e1
  refine go_tr st1 ?_
  show Go _ _ _ _ (T1.setTop (mkF m 4 #[rv fv] [(.ref fv)]))
  obtain ⟨cq2, q2, q2'⟩ := H0.cell
  obtain ⟨_, _, ⟨T2, L2, kk2, nn2⟩, -, X2, ⟨Lc2, hQ2, lq2, yq2, zq2⟩, st2⟩ := X1.privateBack hx (y := (⟨"com/example/adjoinery/adjoinery/FeatureValue", "isVariable", "()Z"⟩ : MethodName)) hown (mvT hZ (w97 hw)) (mvT hZ (w98 hw)) (mvT hZ (sel_priv (w99 hw) (w98 hw) (nf_same (y := (⟨"com/example/adjoinery/adjoinery/FeatureValue", "isVariable", "()Z"⟩ : MethodName)) (y' := (⟨"com/example/adjoinery/adjoinery/FeatureValue", "isStructure", "()Z"⟩ : MethodName)) rfl (w82 hw) (notFace_of_selects (w83 hw))) (by decide))) (Cond.privateMethod_at (mvP hZ (w99 hw) (args := #[]))) (mvT hZ (w100 hw)) (by decide) (backOf (W := 0) (rm_get_isVariable l Z a0 hw [] fv fl h0 n0 (Nat.le_trans Z0 (Nat.le_refl _)) H0 H1 H2 H3 H4) hZ (w100 hw) (w2 hw) (by decide) (by decide)) (g := (mkF m 4 #[rv fv] [(.ref fv)])) rfl (by rw [hml]; rfl) (Steps.refl _) (a := fv) (by rw [e1]; exact q2) q2' (argsL := []) (rest := []) (lenOf pd_10 rfl) rfl (by show 2 * 0 + _ ≤ _; exact Nat.le_of_eq rfl) (hb hby d22_4) (fun _ _ => ⟨rfl, e1, (by decide : 0 + 0 ≤ _), (by decide : 0 + 0 ≤ _)⟩)
  dsimp only [Pt.U, Pt.locs, Pt.cells, Pt.slots] at X2 lq2 yq2 zq2 st2 hQ2
  subst lq2 yq2 zq2
  obtain ⟨h2, e2⟩ : ∃ z, T2.heap = z := ⟨_, rfl⟩
  rw [e2] at hQ2
  obtain ⟨rfl, N2q, he2⟩ := hQ2
  have N2 := Fr.app N1 N2q
  rw [he2] at e2
  refine go_tr st2 ?_
  show Go _ _ _ _ (T2.setTop (mkF m 7 #[rv fv] [(.int 0)]))
  obtain ⟨fs, hr, hrun, hended, hW, hsame⟩ := X2.leave (v := some (.int 0)) (fun h => by rw [Bd.returns] at h; cases h)
  refine ⟨_, _, ?_, hrun, hended, _, _, rfl, ?_, ⟨_, rfl⟩, hW, hsame.mono (by decide) (by decide)⟩
  · exact retN X2 hx (t := .boolean) Bd.returns (by simp) (hb hby d22_7) hr
  · show Q_get_isUnbound _ _ _ _ _ _ T2.heap _
    rw [e2]
    exact ⟨rfl, N2, rfl⟩
def Q_get_atom (Z : State) (fv : Addr) (fl : Addr) (h0 : Heap) (n0 : Nat) (vR : Option Value) (h : Heap) (L : List Loc) : Prop := vR = some .null ∧ Fr n0 L ∧ h = h0
theorem ef_get_atom (m : MethodId) (x0 : Addr) : entryFrame m #[(.ref x0)] 1 = mkF m 0 #[.val (.ref x0)] [] := by first | (simp [entryFrame, mkF, argsToLocals, Value.category]; done) | rfl
set_option maxRecDepth 65536 in
set_option maxHeartbeats 40000000 in
theorem rm_get_atom (l : Launch) (Z : State) (a0 : Array Value) (hw : ∀ d ∈ tables_1, d.before a0 Z = true) (ws : List Jvm.Cond) (fv : Addr) (fl : Addr) (h0 : Heap) (n0 : Nat) (Z0 : n0 ≤ h0.size) (H0 : Exa Z h0 fv cFV) (H1 : Fld Z h0 fv cFV "atom" "Ljava/lang/String;" .null) (H2 : Fld Z h0 fv cFV "alternatives" "Ljava/util/Set;" .null) (H3 : Fld Z h0 fv cFV "features" "Lcom/example/adjoinery/adjoinery/FeatureList;" (.ref fl)) (H4 : Fld Z h0 fv cFV "forward" "Lcom/example/adjoinery/adjoinery/FeatureValue;" .null) :
    MetFree l (⟨"com/example/adjoinery/adjoinery/FeatureValue", "atom", "()Ljava/lang/String;"⟩ : MethodName) (head1 (Jvm.Cond.code (⟨"com/example/adjoinery/adjoinery/FeatureValue", "atom", "()Ljava/lang/String;"⟩ : MethodName) prog_22_method_6_code 1 (some (.object "java/lang/String")) :: ws) ({ frames := 1, cells := 0, slots := 0, locals := 13 } : Room)) (fun a U => a = #[(.ref fv)] ∧ Z.Warmed39 U.vm ∧ U.heap = h0) (fun _ _ _ _ _ => True) (fun _ U o U' => ∃ v L, o = .returned v ∧ Q_get_atom Z fv fl h0 n0 v U'.heap L ∧ FrameEnd U o U' L ({ frames := 1, cells := 0, slots := 0, locals := 13 } : Room).cells ({ frames := 1, cells := 0, slots := 0, locals := 13 } : Room).slots) := by
  refine MetFree.of_bodySF (plainFor_of_name pn_com_example_adjoinery_adjoinery_FeatureValue) hisR ?_
  intro p e s m args below meth c s₁ Bd hml0 hP hK
  obtain ⟨rfl, hZ, hh⟩ := hP
  have hx := Bd.exec
  have hby := Bd.bytes
  have hml : c.maxLocals = 1 := hml0
  have hown : s.vm.findClass "com/example/adjoinery/adjoinery/FeatureValue" = some m.cls := findClass_of_methodNamed Bd.named
  have hnm := (name_of_methodNamed Bd.named Bd.method).1
  have X0 : Stand p l e ({ frames := 1, cells := 0, slots := 0, locals := 13 } : Room) s m #[(.ref fv)] below meth c s₁ [] 0 0 := Stand.of_body Bd
  have e0 : s₁.heap = h0 := by rw [← hh, Bd.state]; rfl
  have N0 := Fr.nil n0
  refine go_st (fun t k => castTop (ef_get_atom m fv) k) ?_
  show Go _ _ _ _ (s₁.setTop (mkF m 0 #[rv fv] []))
  refine go_st (fun t k => XS.aloadN X0.here hx rfl (hb hby d23_0) rfl rfl k) ?_
  show Go _ _ _ _ (s₁.setTop (mkF m 1 #[rv fv] [(.ref fv)]))
  obtain ⟨cq1, kq1, q1a, q1b, q1c⟩ := isOf hZ e0 H0
  obtain ⟨_, _, ⟨T1, L1, kk1, nn1⟩, -, X1, ⟨Lc1, hQ1, lq1, yq1, zq1⟩, st1⟩ := X0.virtualBack hx (y := (⟨"com/example/adjoinery/adjoinery/FeatureValue", "resolve", "()Lcom/example/adjoinery/adjoinery/FeatureValue;"⟩ : MethodName)) (z := (⟨"com/example/adjoinery/adjoinery/FeatureValue", "resolve", "()Lcom/example/adjoinery/adjoinery/FeatureValue;"⟩ : MethodName)) hown (mvT hZ (w85 hw)) (mvT hZ (w86 hw)) (nf_same (y := (⟨"com/example/adjoinery/adjoinery/FeatureValue", "resolve", "()Lcom/example/adjoinery/adjoinery/FeatureValue;"⟩ : MethodName)) (y' := (⟨"com/example/adjoinery/adjoinery/FeatureValue", "isStructure", "()Z"⟩ : MethodName)) (a0 := #[]) rfl (mvT hZ (w82 hw)) (notFace_of_selects (args := #[]) (mvT hZ (w83 hw)))) (mvT hZ (w88 hw)) (mvT hZ (w87 hw)) (by decide) (backOf (W := 0) (rm_resolve l Z a0 hw [] fv h0 n0 (Nat.le_trans Z0 (Nat.le_refl _)) H0 H4) hZ (w89 hw) (w2 hw) (by decide) (by decide)) q1a q1c (g := (mkF m 1 #[rv fv] [(.ref fv)])) rfl (by rw [hml]; rfl) (Steps.refl _) (argsL := []) (rest := []) (lenOf pd_9 rfl) rfl (by show 2 * 0 + _ ≤ _; exact Nat.le_of_eq rfl) (hb hby d23_1) (fun _ _ => ⟨rfl, e0, (by decide : 0 + 0 ≤ _), (by decide : 0 + 0 ≤ _)⟩)
  dsimp only [Pt.U, Pt.locs, Pt.cells, Pt.slots] at X1 lq1 yq1 zq1 st1 hQ1
  subst lq1 yq1 zq1
  obtain ⟨h1, e1⟩ : ∃ z, T1.heap = z := ⟨_, rfl⟩
  rw [e1] at hQ1
  obtain ⟨rfl, N1q, he1⟩ := hQ1
  have N1 := Fr.app N0 N1q
  rw [he1] at e1
  refine go_tr st1 ?_
  show Go _ _ _ _ (T1.setTop (mkF m 4 #[rv fv] [(.ref fv)]))
  obtain ⟨T2, X2, e2, st2⟩ := getF X1 hx hZ hown (host := "") (Or.inl (w27 hw)) Via.refl e1 H1 (g := (mkF m 4 #[rv fv] [(.ref fv)])) rfl rfl (hb hby d23_4)
  refine go_st (fun t k => st2 t k) ?_
  show Go _ _ _ _ (T2.setTop (mkF m 7 #[rv fv] [.null]))
  obtain ⟨fs, hr, hrun, hended, hW, hsame⟩ := X2.leave (v := some .null) (fun h => by rw [Bd.returns] at h; cases h)
  refine ⟨_, _, ?_, hrun, hended, _, _, rfl, ?_, ⟨_, rfl⟩, hW, hsame.mono (by decide) (by decide)⟩
  · exact retOut X2 hx Bd.returns rfl (Or.inr (Or.inr (Or.inr (Or.inr ⟨rfl, rfl, rfl⟩)))) (hb hby d23_7) hr
  · show Q_get_atom _ _ _ _ _ _ T2.heap _
    rw [e2]
    exact ⟨rfl, N1, rfl⟩
def Q_pos0 (Z : State) (fl : Addr) (na : Addr) (va : Addr) (kn : ClassId) (kv : ClassId) (nx : Addr) (h0 : Heap) (n0 : Nat) (vR : Option Value) (h : Heap) (L : List Loc) : Prop := vR = some (.int (-1)) ∧ Fr n0 L ∧ h = h0
theorem ef_pos0 (m : MethodId) (x0 : Addr) (x1 : Addr) : entryFrame m #[(.ref x0), (.ref x1)] 4 = mkF m 0 #[.val (.ref x0), .val (.ref x1), .unset, .unset] [] := by first | (simp [entryFrame, mkF, argsToLocals, Value.category]; done) | rfl
set_option maxRecDepth 65536 in
set_option maxHeartbeats 40000000 in
theorem rm_pos0 (l : Launch) (Z : State) (a0 : Array Value) (hw : ∀ d ∈ tables_1, d.before a0 Z = true) (ws : List Jvm.Cond) (fl : Addr) (na : Addr) (va : Addr) (kn : ClassId) (kv : ClassId) (nx : Addr) (h0 : Heap) (n0 : Nat) (Z0 : n0 ≤ h0.size) (H0 : Exa Z h0 fl cFL) (H1 : Fld Z h0 fl cFL "names" "[Ljava/lang/String;" (.ref na)) (H2 : Fld Z h0 fl cFL "values" "[Lcom/example/adjoinery/adjoinery/FeatureValue;" (.ref va)) (H3 : Fld Z h0 fl cFL "positions" "Ljava/util/Map;" .null) (H4 : Fld Z h0 fl cFL "size" "I" (.int 0)) (H5 : Arv Z h0 na kn (.object "java/lang/String") (4 : Int32) [.null, .null, .null, .null] .null) (H6 : Arv Z h0 va kv (.object "com/example/adjoinery/adjoinery/FeatureValue") (4 : Int32) [.null, .null, .null, .null] .null) :
    MetFree l (⟨"com/example/adjoinery/adjoinery/FeatureList", "positionOf", "(Ljava/lang/String;)I"⟩ : MethodName) (head1 (Jvm.Cond.code (⟨"com/example/adjoinery/adjoinery/FeatureList", "positionOf", "(Ljava/lang/String;)I"⟩ : MethodName) prog_20_method_8_code 4 (some .int) :: ws) ({ frames := 0, cells := 0, slots := 0, locals := 0 } : Room)) (fun a U => a = #[(.ref fl), (.ref nx)] ∧ Z.Warmed39 U.vm ∧ U.heap = h0) (fun _ _ _ _ _ => True) (fun _ U o U' => ∃ v L, o = .returned v ∧ Q_pos0 Z fl na va kn kv nx h0 n0 v U'.heap L ∧ FrameEnd U o U' L ({ frames := 0, cells := 0, slots := 0, locals := 0 } : Room).cells ({ frames := 0, cells := 0, slots := 0, locals := 0 } : Room).slots) := by
  refine MetFree.of_bodySF (plainFor_of_name pn_com_example_adjoinery_adjoinery_FeatureList) hisR ?_
  intro p e s m args below meth c s₁ Bd hml0 hP hK
  obtain ⟨rfl, hZ, hh⟩ := hP
  have hx := Bd.exec
  have hby := Bd.bytes
  have hml : c.maxLocals = 4 := hml0
  have hown : s.vm.findClass "com/example/adjoinery/adjoinery/FeatureList" = some m.cls := findClass_of_methodNamed Bd.named
  have hnm := (name_of_methodNamed Bd.named Bd.method).1
  have X0 : Stand p l e ({ frames := 0, cells := 0, slots := 0, locals := 0 } : Room) s m #[(.ref fl), (.ref nx)] below meth c s₁ [] 0 0 := Stand.of_body Bd
  have e0 : s₁.heap = h0 := by rw [← hh, Bd.state]; rfl
  have N0 := Fr.nil n0
  refine go_st (fun t k => castTop (ef_pos0 m fl nx) k) ?_
  show Go _ _ _ _ (s₁.setTop (mkF m 0 #[rv fl, rv nx, .unset, .unset] []))
  refine go_st (fun t k => XS.iconst X0.here hx rfl (hb hby d24_0) k) ?_
  refine go_st (fun t k => XS.istoreN X0.here hx rfl (hb hby d24_1) rfl (l' := #[rv fl, rv nx, iv (-1), .unset]) rfl k) ?_
  refine go_st (fun t k => XS.aloadN X0.here hx rfl (hb hby d24_2) rfl rfl k) ?_
  show Go _ _ _ _ (s₁.setTop (mkF m 3 #[rv fl, rv nx, iv (-1), .unset] [(.ref fl)]))
  obtain ⟨T1, X1, e1, st1⟩ := getF X0 hx hZ hown (host := "") (Or.inl (w120 hw)) Via.refl e0 H3 (g := (mkF m 3 #[rv fl, rv nx, iv (-1), .unset] [(.ref fl)])) rfl rfl (hb hby d24_3)
  refine go_st (fun t k => st1 t k) ?_
  show Go _ _ _ _ (T1.setTop (mkF m 6 #[rv fl, rv nx, iv (-1), .unset] [.null]))
  refine go_st (fun t k => XS.ifnullYes X1.here hx rfl (pc0 := 6) (pc' := 39) rfl (hb hby d24_6) rfl (by decide) (by decide) k) ?_
  show Go _ _ _ _ (T1.setTop (mkF m 39 #[rv fl, rv nx, iv (-1), .unset] []))
  refine go_st (fun t k => XS.iconst X1.here hx rfl (hb hby d24_39) k) ?_
  refine go_st (fun t k => XS.istoreN X1.here hx rfl (hb hby d24_40) rfl (l' := #[rv fl, rv nx, iv (-1), iv 0]) rfl k) ?_
  refine go_st (fun t k => XS.iloadN X1.here hx rfl (hb hby d24_41) rfl k) ?_
  show Go _ _ _ _ (T1.setTop (mkF m 42 #[rv fl, rv nx, iv (-1), iv 0] [(.int (-1))]))
  refine go_st (fun t k => XS.ifNo X1.here hx rfl (hb hby d24_42) rfl ((if0 _ _).trans (tlt ((by decide) : (-1 : Int32) < (0 : Int32))).2.1) k) ?_
  show Go _ _ _ _ (T1.setTop (mkF m 45 #[rv fl, rv nx, iv (-1), iv 0] []))
  refine go_st (fun t k => XS.iloadN X1.here hx rfl (hb hby d24_45) rfl k) ?_
  refine go_st (fun t k => XS.aloadN X1.here hx rfl (hb hby d24_46) rfl rfl k) ?_
  show Go _ _ _ _ (T1.setTop (mkF m 47 #[rv fl, rv nx, iv (-1), iv 0] [(.ref fl), (.int 0)]))
  obtain ⟨T2, X2, e2, st2⟩ := getF X1 hx hZ hown (host := "") (Or.inl (w122 hw)) Via.refl e1 H4 (g := (mkF m 47 #[rv fl, rv nx, iv (-1), iv 0] [(.ref fl), (.int 0)])) rfl rfl (hb hby d24_47)
  refine go_st (fun t k => st2 t k) ?_
  show Go _ _ _ _ (T2.setTop (mkF m 50 #[rv fl, rv nx, iv (-1), iv 0] [(.int 0), (.int 0)]))
  refine go_st (fun t k => XS.icmpYes X2.here hx rfl (pc0 := 50) (pc' := 74) rfl (hb hby d24_50) rfl (flt ((by decide) : ¬ ((0 : Int32) < (0 : Int32)))).2.1 (by decide) (by decide) k) ?_
  show Go _ _ _ _ (T2.setTop (mkF m 74 #[rv fl, rv nx, iv (-1), iv 0] []))
  refine go_st (fun t k => XS.iloadN X2.here hx rfl (hb hby d24_74) rfl k) ?_
  show Go _ _ _ _ (T2.setTop (mkF m 75 #[rv fl, rv nx, iv (-1), iv 0] [(.int (-1))]))
  obtain ⟨fs, hr, hrun, hended, hW, hsame⟩ := X2.leave (v := some (.int (-1))) (fun h => by rw [Bd.returns] at h; cases h)
  refine ⟨_, _, ?_, hrun, hended, _, _, rfl, ?_, ⟨_, rfl⟩, hW, hsame.mono (by decide) (by decide)⟩
  · exact retI X2 hx Bd.returns (hb hby d24_75) hr
  · show Q_pos0 _ _ _ _ _ _ _ _ _ _ T2.heap _
    rw [e2]
    exact ⟨rfl, N0, rfl⟩
def Q_pos1 (Z : State) (fl : Addr) (na : Addr) (va : Addr) (kn : ClassId) (kv : ClassId) (nx : Addr) (vx : Addr) (h0 : Heap) (n0 : Nat) (vR : Option Value) (h : Heap) (L : List Loc) : Prop := vR = some (.int 0) ∧ Fr n0 L ∧ h = h0
theorem ef_pos1 (m : MethodId) (x0 : Addr) (x1 : Addr) : entryFrame m #[(.ref x0), (.ref x1)] 4 = mkF m 0 #[.val (.ref x0), .val (.ref x1), .unset, .unset] [] := by first | (simp [entryFrame, mkF, argsToLocals, Value.category]; done) | rfl
set_option maxRecDepth 65536 in
set_option maxHeartbeats 40000000 in
theorem rm_pos1 (l : Launch) (Z : State) (a0 : Array Value) (hw : ∀ d ∈ tables_1, d.before a0 Z = true) (ws : List Jvm.Cond) (fl : Addr) (na : Addr) (va : Addr) (kn : ClassId) (kv : ClassId) (nx : Addr) (vx : Addr) (h0 : Heap) (n0 : Nat) (Z0 : n0 ≤ h0.size) (H0 : Exa Z h0 fl cFL) (H1 : Fld Z h0 fl cFL "names" "[Ljava/lang/String;" (.ref na)) (H2 : Fld Z h0 fl cFL "values" "[Lcom/example/adjoinery/adjoinery/FeatureValue;" (.ref va)) (H3 : Fld Z h0 fl cFL "positions" "Ljava/util/Map;" .null) (H4 : Fld Z h0 fl cFL "size" "I" (.int 1)) (H5 : Arv Z h0 na kn (.object "java/lang/String") (4 : Int32) [(.ref nx), .null, .null, .null] .null) (H6 : Arv Z h0 va kv (.object "com/example/adjoinery/adjoinery/FeatureValue") (4 : Int32) [(.ref vx), .null, .null, .null] .null) (H7 : Exa Z h0 nx cST) :
    MetFree l (⟨"com/example/adjoinery/adjoinery/FeatureList", "positionOf", "(Ljava/lang/String;)I"⟩ : MethodName) (head1 (Jvm.Cond.code (⟨"com/example/adjoinery/adjoinery/FeatureList", "positionOf", "(Ljava/lang/String;)I"⟩ : MethodName) prog_20_method_8_code 4 (some .int) :: ws) ({ frames := 1, cells := 0, slots := 0, locals := 14 } : Room)) (fun a U => a = #[(.ref fl), (.ref nx)] ∧ Z.Warmed39 U.vm ∧ U.heap = h0) (fun _ _ _ _ _ => True) (fun _ U o U' => ∃ v L, o = .returned v ∧ Q_pos1 Z fl na va kn kv nx vx h0 n0 v U'.heap L ∧ FrameEnd U o U' L ({ frames := 1, cells := 0, slots := 0, locals := 14 } : Room).cells ({ frames := 1, cells := 0, slots := 0, locals := 14 } : Room).slots) := by
  refine MetFree.of_bodySF (plainFor_of_name pn_com_example_adjoinery_adjoinery_FeatureList) hisR ?_
  intro p e s m args below meth c s₁ Bd hml0 hP hK
  obtain ⟨rfl, hZ, hh⟩ := hP
  have hx := Bd.exec
  have hby := Bd.bytes
  have hml : c.maxLocals = 4 := hml0
  have hown : s.vm.findClass "com/example/adjoinery/adjoinery/FeatureList" = some m.cls := findClass_of_methodNamed Bd.named
  have hnm := (name_of_methodNamed Bd.named Bd.method).1
  have X0 : Stand p l e ({ frames := 1, cells := 0, slots := 0, locals := 14 } : Room) s m #[(.ref fl), (.ref nx)] below meth c s₁ [] 0 0 := Stand.of_body Bd
  have e0 : s₁.heap = h0 := by rw [← hh, Bd.state]; rfl
  have N0 := Fr.nil n0
  refine go_st (fun t k => castTop (ef_pos1 m fl nx) k) ?_
  show Go _ _ _ _ (s₁.setTop (mkF m 0 #[rv fl, rv nx, .unset, .unset] []))
  refine go_st (fun t k => XS.iconst X0.here hx rfl (hb hby d24_0) k) ?_
  refine go_st (fun t k => XS.istoreN X0.here hx rfl (hb hby d24_1) rfl (l' := #[rv fl, rv nx, iv (-1), .unset]) rfl k) ?_
  refine go_st (fun t k => XS.aloadN X0.here hx rfl (hb hby d24_2) rfl rfl k) ?_
  show Go _ _ _ _ (s₁.setTop (mkF m 3 #[rv fl, rv nx, iv (-1), .unset] [(.ref fl)]))
  obtain ⟨T1, X1, e1, st1⟩ := getF X0 hx hZ hown (host := "") (Or.inl (w120 hw)) Via.refl e0 H3 (g := (mkF m 3 #[rv fl, rv nx, iv (-1), .unset] [(.ref fl)])) rfl rfl (hb hby d24_3)
  refine go_st (fun t k => st1 t k) ?_
  show Go _ _ _ _ (T1.setTop (mkF m 6 #[rv fl, rv nx, iv (-1), .unset] [.null]))
  refine go_st (fun t k => XS.ifnullYes X1.here hx rfl (pc0 := 6) (pc' := 39) rfl (hb hby d24_6) rfl (by decide) (by decide) k) ?_
  show Go _ _ _ _ (T1.setTop (mkF m 39 #[rv fl, rv nx, iv (-1), .unset] []))
  refine go_st (fun t k => XS.iconst X1.here hx rfl (hb hby d24_39) k) ?_
  refine go_st (fun t k => XS.istoreN X1.here hx rfl (hb hby d24_40) rfl (l' := #[rv fl, rv nx, iv (-1), iv 0]) rfl k) ?_
  refine go_st (fun t k => XS.iloadN X1.here hx rfl (hb hby d24_41) rfl k) ?_
  show Go _ _ _ _ (T1.setTop (mkF m 42 #[rv fl, rv nx, iv (-1), iv 0] [(.int (-1))]))
  refine go_st (fun t k => XS.ifNo X1.here hx rfl (hb hby d24_42) rfl ((if0 _ _).trans (tlt ((by decide) : (-1 : Int32) < (0 : Int32))).2.1) k) ?_
  show Go _ _ _ _ (T1.setTop (mkF m 45 #[rv fl, rv nx, iv (-1), iv 0] []))
  refine go_st (fun t k => XS.iloadN X1.here hx rfl (hb hby d24_45) rfl k) ?_
  refine go_st (fun t k => XS.aloadN X1.here hx rfl (hb hby d24_46) rfl rfl k) ?_
  show Go _ _ _ _ (T1.setTop (mkF m 47 #[rv fl, rv nx, iv (-1), iv 0] [(.ref fl), (.int 0)]))
  obtain ⟨T2, X2, e2, st2⟩ := getF X1 hx hZ hown (host := "") (Or.inl (w122 hw)) Via.refl e1 H4 (g := (mkF m 47 #[rv fl, rv nx, iv (-1), iv 0] [(.ref fl), (.int 0)])) rfl rfl (hb hby d24_47)
  refine go_st (fun t k => st2 t k) ?_
  show Go _ _ _ _ (T2.setTop (mkF m 50 #[rv fl, rv nx, iv (-1), iv 0] [(.int 1), (.int 0)]))
  refine go_st (fun t k => XS.icmpNo X2.here hx rfl (hb hby d24_50) rfl (tlt ((by decide) : (0 : Int32) < (1 : Int32))).2.1 k) ?_
  show Go _ _ _ _ (T2.setTop (mkF m 53 #[rv fl, rv nx, iv (-1), iv 0] []))
  refine go_st (fun t k => XS.aloadN X2.here hx rfl (hb hby d24_53) rfl rfl k) ?_
  show Go _ _ _ _ (T2.setTop (mkF m 54 #[rv fl, rv nx, iv (-1), iv 0] [(.ref fl)]))
  obtain ⟨T3, X3, e3, st3⟩ := getF X2 hx hZ hown (host := "") (Or.inl (w17 hw)) Via.refl e2 H1 (g := (mkF m 54 #[rv fl, rv nx, iv (-1), iv 0] [(.ref fl)])) rfl rfl (hb hby d24_54)
  refine go_st (fun t k => st3 t k) ?_
  refine go_st (fun t k => XS.iloadN X3.here hx rfl (hb hby d24_57) rfl k) ?_
  show Go _ _ _ _ (T3.setTop (mkF m 58 #[rv fl, rv nx, iv (-1), iv 0] [(.int 0), (.ref na)]))
  obtain ⟨zc4, zA4, zq4, zS4, zN4, zH4, zG4⟩ := id H5
  have hin4 : ¬ ((0 : Int32) < 0 ∨ zc4.slots.size ≤ ((0 : Int32)).toNatClampNeg) := inb_of zS4 ⟨by decide, by decide⟩
  have hat4 : zc4.slots[((0 : Int32)).toNatClampNeg]? = some (.ref nx) := Has.at zH4 hin4 rfl
  refine go_st (fun t k => X3.aaload hx (j := (0 : Int32)) (v := (.ref nx)) (by rw [e3]; exact zA4.1) (State.isArrayOf_alike hZ.alike zA4.2.1) rfl zA4.2.2 hin4 hat4 (g := (mkF m 58 #[rv fl, rv nx, iv (-1), iv 0] [(.int 0), (.ref na)])) rfl rfl (hb hby d24_58) t k) ?_
  refine go_st (fun t k => XS.aloadN X3.here hx rfl (hb hby d24_59) rfl rfl k) ?_
  show Go _ _ _ _ (T3.setTop (mkF m 60 #[rv fl, rv nx, iv (-1), iv 0] [(.ref nx), (.ref nx)]))
  obtain ⟨cq5, kq5, q5a, q5b, q5c⟩ := isOf hZ e3 H7
  obtain ⟨_, _, ⟨T5, L5, kk5, nn5⟩, -, X5, ⟨Lc5, hQ5, lq5, yq5, zq5⟩, st5⟩ := X3.virtualBack hx (y := (⟨"java/lang/String", "equals", "(Ljava/lang/Object;)Z"⟩ : MethodName)) (z := (⟨"java/lang/String", "equals", "(Ljava/lang/Object;)Z"⟩ : MethodName)) hown (mvT hZ (w234 hw)) (mvT hZ (w235 hw)) (notFace_of_selects (args := #[]) (mvT hZ (w237 hw))) (mvT hZ (w237 hw)) (mvT hZ (w236 hw)) (by decide) (backOf (W := 0) (rm_eqsame l Z a0 hw [] nx h0 n0 (Nat.le_trans Z0 (Nat.le_refl _)) ) hZ (w238 hw) (w39 hw) (by decide) (by decide)) q5a q5c (g := (mkF m 60 #[rv fl, rv nx, iv (-1), iv 0] [(.ref nx), (.ref nx)])) rfl (by rw [hml]; rfl) (Steps.refl _) (argsL := [(.ref nx)]) (rest := []) (lenOf pd_6 rfl) rfl (by show 2 * 0 + _ ≤ _; exact Nat.le_of_eq rfl) (hb hby d24_60) (fun _ _ => ⟨rfl, e3, (by decide : 0 + 0 ≤ _), (by decide : 0 + 0 ≤ _)⟩)
  dsimp only [Pt.U, Pt.locs, Pt.cells, Pt.slots] at X5 lq5 yq5 zq5 st5 hQ5
  subst lq5 yq5 zq5
  obtain ⟨h5, e5⟩ : ∃ z, T5.heap = z := ⟨_, rfl⟩
  rw [e5] at hQ5
  obtain ⟨rfl, N5q, he5⟩ := hQ5
  have N5 := Fr.app N0 N5q
  rw [he5] at e5
  refine go_tr st5 ?_
  show Go _ _ _ _ (T5.setTop (mkF m 63 #[rv fl, rv nx, iv (-1), iv 0] [(.int 1)]))
  refine go_st (fun t k => XS.ifNo X5.here hx rfl (hb hby d24_63) rfl ((if0 _ _).trans (feq ((by decide) : ¬ ((1 : Int32) = (0 : Int32)))).1) k) ?_
  show Go _ _ _ _ (T5.setTop (mkF m 66 #[rv fl, rv nx, iv (-1), iv 0] []))
  refine go_st (fun t k => XS.iloadN X5.here hx rfl (hb hby d24_66) rfl k) ?_
  refine go_st (fun t k => XS.istoreN X5.here hx rfl (hb hby d24_67) rfl (l' := #[rv fl, rv nx, iv 0, iv 0]) rfl k) ?_
  show Go _ _ _ _ (T5.setTop (mkF m 68 #[rv fl, rv nx, iv 0, iv 0] []))
  refine go_st (fun t k => XS.iinc X5.here hx rfl (hb hby d24_68) rfl (l' := #[rv fl, rv nx, iv 0, iv ((0 : Int32) + (1 : Int32))]) rfl k) ?_
  rw [show ((0 : Int32) + (1 : Int32)) = (1 : Int32) from by decide]
  show Go _ _ _ _ (T5.setTop (mkF m 71 #[rv fl, rv nx, iv 0, iv 1] []))
  refine go_st (fun t k => XS.goto X5.here hx rfl (pc0 := 71) (pc' := 41) rfl (hb hby d24_71) (by decide) (by decide) k) ?_
  show Go _ _ _ _ (T5.setTop (mkF m 41 #[rv fl, rv nx, iv 0, iv 1] []))
  refine go_st (fun t k => XS.iloadN X5.here hx rfl (hb hby d24_41) rfl k) ?_
  show Go _ _ _ _ (T5.setTop (mkF m 42 #[rv fl, rv nx, iv 0, iv 1] [(.int 0)]))
  refine go_st (fun t k => XS.ifYes X5.here hx rfl (pc0 := 42) (pc' := 74) rfl (hb hby d24_42) rfl ((if0 _ _).trans (flt ((by decide) : ¬ ((0 : Int32) < (0 : Int32)))).2.1) (by decide) (by decide) k) ?_
  show Go _ _ _ _ (T5.setTop (mkF m 74 #[rv fl, rv nx, iv 0, iv 1] []))
  refine go_st (fun t k => XS.iloadN X5.here hx rfl (hb hby d24_74) rfl k) ?_
  show Go _ _ _ _ (T5.setTop (mkF m 75 #[rv fl, rv nx, iv 0, iv 1] [(.int 0)]))
  obtain ⟨fs, hr, hrun, hended, hW, hsame⟩ := X5.leave (v := some (.int 0)) (fun h => by rw [Bd.returns] at h; cases h)
  refine ⟨_, _, ?_, hrun, hended, _, _, rfl, ?_, ⟨_, rfl⟩, hW, hsame.mono (by decide) (by decide)⟩
  · exact retI X5 hx Bd.returns (hb hby d24_75) hr
  · show Q_pos1 _ _ _ _ _ _ _ _ _ _ _ T5.heap _
    rw [e5]
    exact ⟨rfl, N5, rfl⟩
def Q_get0 (Z : State) (fl : Addr) (na : Addr) (va : Addr) (kn : ClassId) (kv : ClassId) (nx : Addr) (h0 : Heap) (n0 : Nat) (vR : Option Value) (h : Heap) (L : List Loc) : Prop := vR = some .null ∧ Fr n0 L ∧ h = h0
theorem ef_get0 (m : MethodId) (x0 : Addr) (x1 : Addr) : entryFrame m #[(.ref x0), (.ref x1)] 3 = mkF m 0 #[.val (.ref x0), .val (.ref x1), .unset] [] := by first | (simp [entryFrame, mkF, argsToLocals, Value.category]; done) | rfl
set_option maxRecDepth 65536 in
set_option maxHeartbeats 40000000 in
theorem rm_get0 (l : Launch) (Z : State) (a0 : Array Value) (hw : ∀ d ∈ tables_1, d.before a0 Z = true) (ws : List Jvm.Cond) (fl : Addr) (na : Addr) (va : Addr) (kn : ClassId) (kv : ClassId) (nx : Addr) (h0 : Heap) (n0 : Nat) (Z0 : n0 ≤ h0.size) (H0 : Exa Z h0 fl cFL) (H1 : Fld Z h0 fl cFL "names" "[Ljava/lang/String;" (.ref na)) (H2 : Fld Z h0 fl cFL "values" "[Lcom/example/adjoinery/adjoinery/FeatureValue;" (.ref va)) (H3 : Fld Z h0 fl cFL "positions" "Ljava/util/Map;" .null) (H4 : Fld Z h0 fl cFL "size" "I" (.int 0)) (H5 : Arv Z h0 na kn (.object "java/lang/String") (4 : Int32) [.null, .null, .null, .null] .null) (H6 : Arv Z h0 va kv (.object "com/example/adjoinery/adjoinery/FeatureValue") (4 : Int32) [.null, .null, .null, .null] .null) :
    MetFree l (⟨"com/example/adjoinery/adjoinery/FeatureList", "get", "(Ljava/lang/String;)Lcom/example/adjoinery/adjoinery/FeatureValue;"⟩ : MethodName) (head1 (Jvm.Cond.code (⟨"com/example/adjoinery/adjoinery/FeatureList", "get", "(Ljava/lang/String;)Lcom/example/adjoinery/adjoinery/FeatureValue;"⟩ : MethodName) prog_20_method_5_code 3 (some (.object "com/example/adjoinery/adjoinery/FeatureValue")) :: ws) ({ frames := 1, cells := 0, slots := 0, locals := 15 } : Room)) (fun a U => a = #[(.ref fl), (.ref nx)] ∧ Z.Warmed39 U.vm ∧ U.heap = h0) (fun _ _ _ _ _ => True) (fun _ U o U' => ∃ v L, o = .returned v ∧ Q_get0 Z fl na va kn kv nx h0 n0 v U'.heap L ∧ FrameEnd U o U' L ({ frames := 1, cells := 0, slots := 0, locals := 15 } : Room).cells ({ frames := 1, cells := 0, slots := 0, locals := 15 } : Room).slots) := by
  refine MetFree.of_bodySF (plainFor_of_name pn_com_example_adjoinery_adjoinery_FeatureList) hisR ?_
  intro p e s m args below meth c s₁ Bd hml0 hP hK
  obtain ⟨rfl, hZ, hh⟩ := hP
  have hx := Bd.exec
  have hby := Bd.bytes
  have hml : c.maxLocals = 3 := hml0
  have hown : s.vm.findClass "com/example/adjoinery/adjoinery/FeatureList" = some m.cls := findClass_of_methodNamed Bd.named
  have hnm := (name_of_methodNamed Bd.named Bd.method).1
  have X0 : Stand p l e ({ frames := 1, cells := 0, slots := 0, locals := 15 } : Room) s m #[(.ref fl), (.ref nx)] below meth c s₁ [] 0 0 := Stand.of_body Bd
  have e0 : s₁.heap = h0 := by rw [← hh, Bd.state]; rfl
  have N0 := Fr.nil n0
  refine go_st (fun t k => castTop (ef_get0 m fl nx) k) ?_
  show Go _ _ _ _ (s₁.setTop (mkF m 0 #[rv fl, rv nx, .unset] []))
  refine go_st (fun t k => XS.aloadN X0.here hx rfl (hb hby d25_0) rfl rfl k) ?_
  refine go_st (fun t k => XS.aloadN X0.here hx rfl (hb hby d25_1) rfl rfl k) ?_
  show Go _ _ _ _ (s₁.setTop (mkF m 2 #[rv fl, rv nx, .unset] [(.ref nx), (.ref fl)]))
  obtain ⟨cq1, q1, q1'⟩ := H0.cell
  obtain ⟨_, _, ⟨T1, L1, kk1, nn1⟩, -, X1, ⟨Lc1, hQ1, lq1, yq1, zq1⟩, st1⟩ := X0.privateBack hx (y := (⟨"com/example/adjoinery/adjoinery/FeatureList", "positionOf", "(Ljava/lang/String;)I"⟩ : MethodName)) hown (mvT hZ (w116 hw)) (mvT hZ (w117 hw)) (mvT hZ (sel_priv (w118 hw) (w117 hw) (nf_same (y := (⟨"com/example/adjoinery/adjoinery/FeatureList", "positionOf", "(Ljava/lang/String;)I"⟩ : MethodName)) (y' := (⟨"com/example/adjoinery/adjoinery/FeatureList", "get", "(Ljava/lang/String;)Lcom/example/adjoinery/adjoinery/FeatureValue;"⟩ : MethodName)) rfl (w113 hw) (notFace_of_selects (w114 hw))) (by decide))) (Cond.privateMethod_at (mvP hZ (w118 hw) (args := #[]))) (mvT hZ (w119 hw)) (by decide) (backOf (W := 0) (rm_pos0 l Z a0 hw [] fl na va kn kv nx h0 n0 (Nat.le_trans Z0 (Nat.le_refl _)) H0 H1 H2 H3 H4 H5 H6) hZ (w119 hw) (w8 hw) (by decide) (by decide)) (g := (mkF m 2 #[rv fl, rv nx, .unset] [(.ref nx), (.ref fl)])) rfl (by rw [hml]; rfl) (Steps.refl _) (a := fl) (by rw [e0]; exact q1) q1' (argsL := [(.ref nx)]) (rest := []) (lenOf pd_11 rfl) rfl (by show 2 * 0 + _ ≤ _; exact Nat.le_of_eq rfl) (hb hby d25_2) (fun _ _ => ⟨rfl, e0, (by decide : 0 + 0 ≤ _), (by decide : 0 + 0 ≤ _)⟩)
  dsimp only [Pt.U, Pt.locs, Pt.cells, Pt.slots] at X1 lq1 yq1 zq1 st1 hQ1
  subst lq1 yq1 zq1
  obtain ⟨h1, e1⟩ : ∃ z, T1.heap = z := ⟨_, rfl⟩
  rw [e1] at hQ1
  obtain ⟨rfl, N1q, he1⟩ := hQ1
  have N1 := Fr.app N0 N1q
  rw [he1] at e1
  refine go_tr st1 ?_
  show Go _ _ _ _ (T1.setTop (mkF m 5 #[rv fl, rv nx, .unset] [(.int (-1))]))
  refine go_st (fun t k => XS.istoreN X1.here hx rfl (hb hby d25_5) rfl (l' := #[rv fl, rv nx, iv (-1)]) rfl k) ?_
  refine go_st (fun t k => XS.iloadN X1.here hx rfl (hb hby d25_6) rfl k) ?_
  show Go _ _ _ _ (T1.setTop (mkF m 7 #[rv fl, rv nx, iv (-1)] [(.int (-1))]))
  refine go_st (fun t k => XS.ifNo X1.here hx rfl (hb hby d25_7) rfl ((if0 _ _).trans (tlt ((by decide) : (-1 : Int32) < (0 : Int32))).2.1) k) ?_
  show Go _ _ _ _ (T1.setTop (mkF m 10 #[rv fl, rv nx, iv (-1)] []))
  refine go_st (fun t k => XS.aconstNull X1.here hx rfl (hb hby d25_10) k) ?_
  refine go_st (fun t k => XS.goto X1.here hx rfl (pc0 := 11) (pc' := 20) rfl (hb hby d25_11) (by decide) (by decide) k) ?_
  show Go _ _ _ _ (T1.setTop (mkF m 20 #[rv fl, rv nx, iv (-1)] [.null]))
  obtain ⟨fs, hr, hrun, hended, hW, hsame⟩ := X1.leave (v := some .null) (fun h => by rw [Bd.returns] at h; cases h)
  refine ⟨_, _, ?_, hrun, hended, _, _, rfl, ?_, ⟨_, rfl⟩, hW, hsame.mono (by decide) (by decide)⟩
  · exact retOut X1 hx Bd.returns rfl (Or.inr (Or.inr (Or.inr (Or.inr ⟨rfl, rfl, rfl⟩)))) (hb hby d25_20) hr
  · show Q_get0 _ _ _ _ _ _ _ _ _ _ T1.heap _
    rw [e1]
    exact ⟨rfl, N1, rfl⟩
def Q_get1 (Z : State) (fl : Addr) (na : Addr) (va : Addr) (kn : ClassId) (kv : ClassId) (nx : Addr) (vx : Addr) (h0 : Heap) (n0 : Nat) (vR : Option Value) (h : Heap) (L : List Loc) : Prop := vR = some (.ref vx) ∧ Fr n0 L ∧ h = h0
theorem ef_get1 (m : MethodId) (x0 : Addr) (x1 : Addr) : entryFrame m #[(.ref x0), (.ref x1)] 3 = mkF m 0 #[.val (.ref x0), .val (.ref x1), .unset] [] := by first | (simp [entryFrame, mkF, argsToLocals, Value.category]; done) | rfl
set_option maxRecDepth 65536 in
set_option maxHeartbeats 40000000 in
theorem rm_get1 (l : Launch) (Z : State) (a0 : Array Value) (hw : ∀ d ∈ tables_1, d.before a0 Z = true) (ws : List Jvm.Cond) (fl : Addr) (na : Addr) (va : Addr) (kn : ClassId) (kv : ClassId) (nx : Addr) (vx : Addr) (h0 : Heap) (n0 : Nat) (Z0 : n0 ≤ h0.size) (H0 : Exa Z h0 fl cFL) (H1 : Fld Z h0 fl cFL "names" "[Ljava/lang/String;" (.ref na)) (H2 : Fld Z h0 fl cFL "values" "[Lcom/example/adjoinery/adjoinery/FeatureValue;" (.ref va)) (H3 : Fld Z h0 fl cFL "positions" "Ljava/util/Map;" .null) (H4 : Fld Z h0 fl cFL "size" "I" (.int 1)) (H5 : Arv Z h0 na kn (.object "java/lang/String") (4 : Int32) [(.ref nx), .null, .null, .null] .null) (H6 : Arv Z h0 va kv (.object "com/example/adjoinery/adjoinery/FeatureValue") (4 : Int32) [(.ref vx), .null, .null, .null] .null) (H7 : Exa Z h0 nx cST) :
    MetFree l (⟨"com/example/adjoinery/adjoinery/FeatureList", "get", "(Ljava/lang/String;)Lcom/example/adjoinery/adjoinery/FeatureValue;"⟩ : MethodName) (head1 (Jvm.Cond.code (⟨"com/example/adjoinery/adjoinery/FeatureList", "get", "(Ljava/lang/String;)Lcom/example/adjoinery/adjoinery/FeatureValue;"⟩ : MethodName) prog_20_method_5_code 3 (some (.object "com/example/adjoinery/adjoinery/FeatureValue")) :: ws) ({ frames := 2, cells := 0, slots := 0, locals := 29 } : Room)) (fun a U => a = #[(.ref fl), (.ref nx)] ∧ Z.Warmed39 U.vm ∧ U.heap = h0) (fun _ _ _ _ _ => True) (fun _ U o U' => ∃ v L, o = .returned v ∧ Q_get1 Z fl na va kn kv nx vx h0 n0 v U'.heap L ∧ FrameEnd U o U' L ({ frames := 2, cells := 0, slots := 0, locals := 29 } : Room).cells ({ frames := 2, cells := 0, slots := 0, locals := 29 } : Room).slots) := by
  refine MetFree.of_bodySF (plainFor_of_name pn_com_example_adjoinery_adjoinery_FeatureList) hisR ?_
  intro p e s m args below meth c s₁ Bd hml0 hP hK
  obtain ⟨rfl, hZ, hh⟩ := hP
  have hx := Bd.exec
  have hby := Bd.bytes
  have hml : c.maxLocals = 3 := hml0
  have hown : s.vm.findClass "com/example/adjoinery/adjoinery/FeatureList" = some m.cls := findClass_of_methodNamed Bd.named
  have hnm := (name_of_methodNamed Bd.named Bd.method).1
  have X0 : Stand p l e ({ frames := 2, cells := 0, slots := 0, locals := 29 } : Room) s m #[(.ref fl), (.ref nx)] below meth c s₁ [] 0 0 := Stand.of_body Bd
  have e0 : s₁.heap = h0 := by rw [← hh, Bd.state]; rfl
  have N0 := Fr.nil n0
  refine go_st (fun t k => castTop (ef_get1 m fl nx) k) ?_
  show Go _ _ _ _ (s₁.setTop (mkF m 0 #[rv fl, rv nx, .unset] []))
  refine go_st (fun t k => XS.aloadN X0.here hx rfl (hb hby d25_0) rfl rfl k) ?_
  refine go_st (fun t k => XS.aloadN X0.here hx rfl (hb hby d25_1) rfl rfl k) ?_
  show Go _ _ _ _ (s₁.setTop (mkF m 2 #[rv fl, rv nx, .unset] [(.ref nx), (.ref fl)]))
  obtain ⟨cq1, q1, q1'⟩ := H0.cell
  obtain ⟨_, _, ⟨T1, L1, kk1, nn1⟩, -, X1, ⟨Lc1, hQ1, lq1, yq1, zq1⟩, st1⟩ := X0.privateBack hx (y := (⟨"com/example/adjoinery/adjoinery/FeatureList", "positionOf", "(Ljava/lang/String;)I"⟩ : MethodName)) hown (mvT hZ (w116 hw)) (mvT hZ (w117 hw)) (mvT hZ (sel_priv (w118 hw) (w117 hw) (nf_same (y := (⟨"com/example/adjoinery/adjoinery/FeatureList", "positionOf", "(Ljava/lang/String;)I"⟩ : MethodName)) (y' := (⟨"com/example/adjoinery/adjoinery/FeatureList", "get", "(Ljava/lang/String;)Lcom/example/adjoinery/adjoinery/FeatureValue;"⟩ : MethodName)) rfl (w113 hw) (notFace_of_selects (w114 hw))) (by decide))) (Cond.privateMethod_at (mvP hZ (w118 hw) (args := #[]))) (mvT hZ (w119 hw)) (by decide) (backOf (W := 0) (rm_pos1 l Z a0 hw [] fl na va kn kv nx vx h0 n0 (Nat.le_trans Z0 (Nat.le_refl _)) H0 H1 H2 H3 H4 H5 H6 H7) hZ (w119 hw) (w8 hw) (by decide) (by decide)) (g := (mkF m 2 #[rv fl, rv nx, .unset] [(.ref nx), (.ref fl)])) rfl (by rw [hml]; rfl) (Steps.refl _) (a := fl) (by rw [e0]; exact q1) q1' (argsL := [(.ref nx)]) (rest := []) (lenOf pd_11 rfl) rfl (by show 2 * 0 + _ ≤ _; exact Nat.le_of_eq rfl) (hb hby d25_2) (fun _ _ => ⟨rfl, e0, (by decide : 0 + 0 ≤ _), (by decide : 0 + 0 ≤ _)⟩)
  dsimp only [Pt.U, Pt.locs, Pt.cells, Pt.slots] at X1 lq1 yq1 zq1 st1 hQ1
  subst lq1 yq1 zq1
  obtain ⟨h1, e1⟩ : ∃ z, T1.heap = z := ⟨_, rfl⟩
  rw [e1] at hQ1
  obtain ⟨rfl, N1q, he1⟩ := hQ1
  have N1 := Fr.app N0 N1q
  rw [he1] at e1
  refine go_tr st1 ?_
  show Go _ _ _ _ (T1.setTop (mkF m 5 #[rv fl, rv nx, .unset] [(.int 0)]))
  refine go_st (fun t k => XS.istoreN X1.here hx rfl (hb hby d25_5) rfl (l' := #[rv fl, rv nx, iv 0]) rfl k) ?_
  refine go_st (fun t k => XS.iloadN X1.here hx rfl (hb hby d25_6) rfl k) ?_
  show Go _ _ _ _ (T1.setTop (mkF m 7 #[rv fl, rv nx, iv 0] [(.int 0)]))
  refine go_st (fun t k => XS.ifYes X1.here hx rfl (pc0 := 7) (pc' := 14) rfl (hb hby d25_7) rfl ((if0 _ _).trans (flt ((by decide) : ¬ ((0 : Int32) < (0 : Int32)))).2.1) (by decide) (by decide) k) ?_
  show Go _ _ _ _ (T1.setTop (mkF m 14 #[rv fl, rv nx, iv 0] []))
  refine go_st (fun t k => XS.aloadN X1.here hx rfl (hb hby d25_14) rfl rfl k) ?_
  show Go _ _ _ _ (T1.setTop (mkF m 15 #[rv fl, rv nx, iv 0] [(.ref fl)]))
  obtain ⟨T2, X2, e2, st2⟩ := getF X1 hx hZ hown (host := "") (Or.inl (w21 hw)) Via.refl e1 H2 (g := (mkF m 15 #[rv fl, rv nx, iv 0] [(.ref fl)])) rfl rfl (hb hby d25_15)
  refine go_st (fun t k => st2 t k) ?_
  refine go_st (fun t k => XS.iloadN X2.here hx rfl (hb hby d25_18) rfl k) ?_
  show Go _ _ _ _ (T2.setTop (mkF m 19 #[rv fl, rv nx, iv 0] [(.int 0), (.ref va)]))
  obtain ⟨zc3, zA3, zq3, zS3, zN3, zH3, zG3⟩ := id H6
  have hin3 : ¬ ((0 : Int32) < 0 ∨ zc3.slots.size ≤ ((0 : Int32)).toNatClampNeg) := inb_of zS3 ⟨by decide, by decide⟩
  have hat3 : zc3.slots[((0 : Int32)).toNatClampNeg]? = some (.ref vx) := Has.at zH3 hin3 rfl
  refine go_st (fun t k => X2.aaload hx (j := (0 : Int32)) (v := (.ref vx)) (by rw [e2]; exact zA3.1) (State.isArrayOf_alike hZ.alike zA3.2.1) rfl zA3.2.2 hin3 hat3 (g := (mkF m 19 #[rv fl, rv nx, iv 0] [(.int 0), (.ref va)])) rfl rfl (hb hby d25_19) t k) ?_
  show Go _ _ _ _ (T2.setTop (mkF m 20 #[rv fl, rv nx, iv 0] [(.ref vx)]))
  obtain ⟨fs, hr, hrun, hended, hW, hsame⟩ := X2.leave (v := some (.ref vx)) (fun h => by rw [Bd.returns] at h; cases h)
  refine ⟨_, _, ?_, hrun, hended, _, _, rfl, ?_, ⟨_, rfl⟩, hW, hsame.mono (by decide) (by decide)⟩
  · exact retOut X2 hx Bd.returns rfl (Or.inr (Or.inr (Or.inr (Or.inr ⟨rfl, rfl, rfl⟩)))) (hb hby d25_20) hr
  · show Q_get1 _ _ _ _ _ _ _ _ _ _ _ T2.heap _
    rw [e2]
    exact ⟨rfl, N1, rfl⟩
def Q_feat0 (Z : State) (fv : Addr) (fl : Addr) (na : Addr) (va : Addr) (kn : ClassId) (kv : ClassId) (nx : Addr) (h0 : Heap) (n0 : Nat) (vR : Option Value) (h : Heap) (L : List Loc) : Prop := vR = some .null ∧ Fr n0 L ∧ h = h0
theorem ef_feat0 (m : MethodId) (x0 : Addr) (x1 : Addr) : entryFrame m #[(.ref x0), (.ref x1)] 4 = mkF m 0 #[.val (.ref x0), .val (.ref x1), .unset, .unset] [] := by first | (simp [entryFrame, mkF, argsToLocals, Value.category]; done) | rfl
set_option maxRecDepth 65536 in
set_option maxHeartbeats 40000000 in
theorem rm_feat0 (l : Launch) (Z : State) (a0 : Array Value) (hw : ∀ d ∈ tables_1, d.before a0 Z = true) (ws : List Jvm.Cond) (fv : Addr) (fl : Addr) (na : Addr) (va : Addr) (kn : ClassId) (kv : ClassId) (nx : Addr) (h0 : Heap) (n0 : Nat) (Z0 : n0 ≤ h0.size) (H0 : Exa Z h0 fv cFV) (H1 : Fld Z h0 fv cFV "atom" "Ljava/lang/String;" .null) (H2 : Fld Z h0 fv cFV "alternatives" "Ljava/util/Set;" .null) (H3 : Fld Z h0 fv cFV "features" "Lcom/example/adjoinery/adjoinery/FeatureList;" (.ref fl)) (H4 : Fld Z h0 fv cFV "forward" "Lcom/example/adjoinery/adjoinery/FeatureValue;" .null) (H5 : Exa Z h0 fl cFL) (H6 : Fld Z h0 fl cFL "names" "[Ljava/lang/String;" (.ref na)) (H7 : Fld Z h0 fl cFL "values" "[Lcom/example/adjoinery/adjoinery/FeatureValue;" (.ref va)) (H8 : Fld Z h0 fl cFL "positions" "Ljava/util/Map;" .null) (H9 : Fld Z h0 fl cFL "size" "I" (.int 0)) (H10 : Arv Z h0 na kn (.object "java/lang/String") (4 : Int32) [.null, .null, .null, .null] .null) (H11 : Arv Z h0 va kv (.object "com/example/adjoinery/adjoinery/FeatureValue") (4 : Int32) [.null, .null, .null, .null] .null) :
    MetFree l (⟨"com/example/adjoinery/adjoinery/FeatureValue", "feature", "(Ljava/lang/String;)Lcom/example/adjoinery/adjoinery/FeatureValue;"⟩ : MethodName) (head1 (Jvm.Cond.code (⟨"com/example/adjoinery/adjoinery/FeatureValue", "feature", "(Ljava/lang/String;)Lcom/example/adjoinery/adjoinery/FeatureValue;"⟩ : MethodName) prog_22_method_9_code 4 (some (.object "com/example/adjoinery/adjoinery/FeatureValue")) :: ws) ({ frames := 2, cells := 0, slots := 0, locals := 29 } : Room)) (fun a U => a = #[(.ref fv), (.ref nx)] ∧ Z.Warmed39 U.vm ∧ U.heap = h0) (fun _ _ _ _ _ => True) (fun _ U o U' => ∃ v L, o = .returned v ∧ Q_feat0 Z fv fl na va kn kv nx h0 n0 v U'.heap L ∧ FrameEnd U o U' L ({ frames := 2, cells := 0, slots := 0, locals := 29 } : Room).cells ({ frames := 2, cells := 0, slots := 0, locals := 29 } : Room).slots) := by
  refine MetFree.of_bodySF (plainFor_of_name pn_com_example_adjoinery_adjoinery_FeatureValue) hisR ?_
  intro p e s m args below meth c s₁ Bd hml0 hP hK
  obtain ⟨rfl, hZ, hh⟩ := hP
  have hx := Bd.exec
  have hby := Bd.bytes
  have hml : c.maxLocals = 4 := hml0
  have hown : s.vm.findClass "com/example/adjoinery/adjoinery/FeatureValue" = some m.cls := findClass_of_methodNamed Bd.named
  have hnm := (name_of_methodNamed Bd.named Bd.method).1
  have X0 : Stand p l e ({ frames := 2, cells := 0, slots := 0, locals := 29 } : Room) s m #[(.ref fv), (.ref nx)] below meth c s₁ [] 0 0 := Stand.of_body Bd
  have e0 : s₁.heap = h0 := by rw [← hh, Bd.state]; rfl
  have N0 := Fr.nil n0
  refine go_st (fun t k => castTop (ef_feat0 m fv nx) k) ?_
  show Go _ _ _ _ (s₁.setTop (mkF m 0 #[rv fv, rv nx, .unset, .unset] []))
  refine go_st (fun t k => XS.aloadN X0.here hx rfl (hb hby d26_0) rfl rfl k) ?_
  show Go _ _ _ _ (s₁.setTop (mkF m 1 #[rv fv, rv nx, .unset, .unset] [(.ref fv)]))
  obtain ⟨cq1, kq1, q1a, q1b, q1c⟩ := isOf hZ e0 H0
  obtain ⟨_, _, ⟨T1, L1, kk1, nn1⟩, -, X1, ⟨Lc1, hQ1, lq1, yq1, zq1⟩, st1⟩ := X0.virtualBack hx (y := (⟨"com/example/adjoinery/adjoinery/FeatureValue", "resolve", "()Lcom/example/adjoinery/adjoinery/FeatureValue;"⟩ : MethodName)) (z := (⟨"com/example/adjoinery/adjoinery/FeatureValue", "resolve", "()Lcom/example/adjoinery/adjoinery/FeatureValue;"⟩ : MethodName)) hown (mvT hZ (w85 hw)) (mvT hZ (w86 hw)) (nf_same (y := (⟨"com/example/adjoinery/adjoinery/FeatureValue", "resolve", "()Lcom/example/adjoinery/adjoinery/FeatureValue;"⟩ : MethodName)) (y' := (⟨"com/example/adjoinery/adjoinery/FeatureValue", "isStructure", "()Z"⟩ : MethodName)) (a0 := #[]) rfl (mvT hZ (w82 hw)) (notFace_of_selects (args := #[]) (mvT hZ (w83 hw)))) (mvT hZ (w88 hw)) (mvT hZ (w87 hw)) (by decide) (backOf (W := 0) (rm_resolve l Z a0 hw [] fv h0 n0 (Nat.le_trans Z0 (Nat.le_refl _)) H0 H4) hZ (w89 hw) (w2 hw) (by decide) (by decide)) q1a q1c (g := (mkF m 1 #[rv fv, rv nx, .unset, .unset] [(.ref fv)])) rfl (by rw [hml]; rfl) (Steps.refl _) (argsL := []) (rest := []) (lenOf pd_9 rfl) rfl (by show 2 * 0 + _ ≤ _; exact Nat.le_of_eq rfl) (hb hby d26_1) (fun _ _ => ⟨rfl, e0, (by decide : 0 + 0 ≤ _), (by decide : 0 + 0 ≤ _)⟩)
  dsimp only [Pt.U, Pt.locs, Pt.cells, Pt.slots] at X1 lq1 yq1 zq1 st1 hQ1
  subst lq1 yq1 zq1
  obtain ⟨h1, e1⟩ : ∃ z, T1.heap = z := ⟨_, rfl⟩
  rw [e1] at hQ1
  obtain ⟨rfl, N1q, he1⟩ := hQ1
  have N1 := Fr.app N0 N1q
  rw [he1] at e1
  refine go_tr st1 ?_
  show Go _ _ _ _ (T1.setTop (mkF m 4 #[rv fv, rv nx, .unset, .unset] [(.ref fv)]))
  obtain ⟨T2, X2, e2, st2⟩ := getF X1 hx hZ hown (host := "") (Or.inl (w31 hw)) Via.refl e1 H3 (g := (mkF m 4 #[rv fv, rv nx, .unset, .unset] [(.ref fv)])) rfl rfl (hb hby d26_4)
  refine go_st (fun t k => st2 t k) ?_
  refine go_st (fun t k => XS.astoreN X2.here hx rfl (hb hby d26_7) rfl rfl (l' := #[rv fv, rv nx, rv fl, .unset]) rfl k) ?_
  refine go_st (fun t k => XS.aloadN X2.here hx rfl (hb hby d26_8) rfl rfl k) ?_
  show Go _ _ _ _ (T2.setTop (mkF m 9 #[rv fv, rv nx, rv fl, .unset] [(.ref fl)]))
  refine go_st (fun t k => XS.ifnonnullYes X2.here hx rfl (pc0 := 9) (pc' := 16) rfl (hb hby d26_9) rfl (by decide) (by decide) k) ?_
  show Go _ _ _ _ (T2.setTop (mkF m 16 #[rv fv, rv nx, rv fl, .unset] []))
  refine go_st (fun t k => XS.aloadN X2.here hx rfl (hb hby d26_16) rfl rfl k) ?_
  refine go_st (fun t k => XS.aloadN X2.here hx rfl (hb hby d26_17) rfl rfl k) ?_
  show Go _ _ _ _ (T2.setTop (mkF m 18 #[rv fv, rv nx, rv fl, .unset] [(.ref nx), (.ref fl)]))
  obtain ⟨cq3, kq3, q3a, q3b, q3c⟩ := isOf hZ e2 H5
  obtain ⟨_, _, ⟨T3, L3, kk3, nn3⟩, -, X3, ⟨Lc3, hQ3, lq3, yq3, zq3⟩, st3⟩ := X2.virtualBack hx (y := (⟨"com/example/adjoinery/adjoinery/FeatureList", "get", "(Ljava/lang/String;)Lcom/example/adjoinery/adjoinery/FeatureValue;"⟩ : MethodName)) (z := (⟨"com/example/adjoinery/adjoinery/FeatureList", "get", "(Ljava/lang/String;)Lcom/example/adjoinery/adjoinery/FeatureValue;"⟩ : MethodName)) hown (mvT hZ (w111 hw)) (mvT hZ (w112 hw)) (notFace_of_selects (args := #[]) (mvT hZ (w114 hw))) (mvT hZ (w114 hw)) (mvT hZ (w113 hw)) (by decide) (backOf (W := 0) (rm_get0 l Z a0 hw [] fl na va kn kv nx h0 n0 (Nat.le_trans Z0 (Nat.le_refl _)) H5 H6 H7 H8 H9 H10 H11) hZ (w115 hw) (w8 hw) (by decide) (by decide)) q3a q3c (g := (mkF m 18 #[rv fv, rv nx, rv fl, .unset] [(.ref nx), (.ref fl)])) rfl (by rw [hml]; rfl) (Steps.refl _) (argsL := [(.ref nx)]) (rest := []) (lenOf pd_12 rfl) rfl (by show 2 * 0 + _ ≤ _; exact Nat.le_of_eq rfl) (hb hby d26_18) (fun _ _ => ⟨rfl, e2, (by decide : 0 + 0 ≤ _), (by decide : 0 + 0 ≤ _)⟩)
  dsimp only [Pt.U, Pt.locs, Pt.cells, Pt.slots] at X3 lq3 yq3 zq3 st3 hQ3
  subst lq3 yq3 zq3
  obtain ⟨h3, e3⟩ : ∃ z, T3.heap = z := ⟨_, rfl⟩
  rw [e3] at hQ3
  obtain ⟨rfl, N3q, he3⟩ := hQ3
  have N3 := Fr.app N1 N3q
  rw [he3] at e3
  refine go_tr st3 ?_
  show Go _ _ _ _ (T3.setTop (mkF m 21 #[rv fv, rv nx, rv fl, .unset] [.null]))
  refine go_st (fun t k => XS.astoreN X3.here hx rfl (hb hby d26_21) rfl rfl (l' := #[rv fv, rv nx, rv fl, .val .null]) rfl k) ?_
  refine go_st (fun t k => XS.aloadN X3.here hx rfl (hb hby d26_22) rfl rfl k) ?_
  show Go _ _ _ _ (T3.setTop (mkF m 23 #[rv fv, rv nx, rv fl, .val .null] [.null]))
  refine go_st (fun t k => XS.ifnonnullNo X3.here hx rfl (hb hby d26_23) rfl k) ?_
  show Go _ _ _ _ (T3.setTop (mkF m 26 #[rv fv, rv nx, rv fl, .val .null] []))
  refine go_st (fun t k => XS.aconstNull X3.here hx rfl (hb hby d26_26) k) ?_
  refine go_st (fun t k => XS.goto X3.here hx rfl (pc0 := 27) (pc' := 34) rfl (hb hby d26_27) (by decide) (by decide) k) ?_
  show Go _ _ _ _ (T3.setTop (mkF m 34 #[rv fv, rv nx, rv fl, .val .null] [.null]))
  obtain ⟨fs, hr, hrun, hended, hW, hsame⟩ := X3.leave (v := some .null) (fun h => by rw [Bd.returns] at h; cases h)
  refine ⟨_, _, ?_, hrun, hended, _, _, rfl, ?_, ⟨_, rfl⟩, hW, hsame.mono (by decide) (by decide)⟩
  · exact retOut X3 hx Bd.returns rfl (Or.inr (Or.inr (Or.inr (Or.inr ⟨rfl, rfl, rfl⟩)))) (hb hby d26_34) hr
  · show Q_feat0 _ _ _ _ _ _ _ _ _ _ _ T3.heap _
    rw [e3]
    exact ⟨rfl, N3, rfl⟩
def Q_feat1 (Z : State) (fv : Addr) (fl : Addr) (na : Addr) (va : Addr) (kn : ClassId) (kv : ClassId) (nx : Addr) (vx : Addr) (h0 : Heap) (n0 : Nat) (vR : Option Value) (h : Heap) (L : List Loc) : Prop := vR = some (.ref vx) ∧ Fr n0 L ∧ h = h0
theorem ef_feat1 (m : MethodId) (x0 : Addr) (x1 : Addr) : entryFrame m #[(.ref x0), (.ref x1)] 4 = mkF m 0 #[.val (.ref x0), .val (.ref x1), .unset, .unset] [] := by first | (simp [entryFrame, mkF, argsToLocals, Value.category]; done) | rfl
set_option maxRecDepth 65536 in
set_option maxHeartbeats 40000000 in
theorem rm_feat1 (l : Launch) (Z : State) (a0 : Array Value) (hw : ∀ d ∈ tables_1, d.before a0 Z = true) (ws : List Jvm.Cond) (fv : Addr) (fl : Addr) (na : Addr) (va : Addr) (kn : ClassId) (kv : ClassId) (nx : Addr) (vx : Addr) (h0 : Heap) (n0 : Nat) (Z0 : n0 ≤ h0.size) (H0 : Exa Z h0 fv cFV) (H1 : Fld Z h0 fv cFV "atom" "Ljava/lang/String;" .null) (H2 : Fld Z h0 fv cFV "alternatives" "Ljava/util/Set;" .null) (H3 : Fld Z h0 fv cFV "features" "Lcom/example/adjoinery/adjoinery/FeatureList;" (.ref fl)) (H4 : Fld Z h0 fv cFV "forward" "Lcom/example/adjoinery/adjoinery/FeatureValue;" .null) (H5 : Exa Z h0 fl cFL) (H6 : Fld Z h0 fl cFL "names" "[Ljava/lang/String;" (.ref na)) (H7 : Fld Z h0 fl cFL "values" "[Lcom/example/adjoinery/adjoinery/FeatureValue;" (.ref va)) (H8 : Fld Z h0 fl cFL "positions" "Ljava/util/Map;" .null) (H9 : Fld Z h0 fl cFL "size" "I" (.int 1)) (H10 : Arv Z h0 na kn (.object "java/lang/String") (4 : Int32) [(.ref nx), .null, .null, .null] .null) (H11 : Arv Z h0 va kv (.object "com/example/adjoinery/adjoinery/FeatureValue") (4 : Int32) [(.ref vx), .null, .null, .null] .null) (H12 : Exa Z h0 nx cST) (H13 : Exa Z h0 vx cFV) (H14 : Fld Z h0 vx cFV "forward" "Lcom/example/adjoinery/adjoinery/FeatureValue;" .null) :
    MetFree l (⟨"com/example/adjoinery/adjoinery/FeatureValue", "feature", "(Ljava/lang/String;)Lcom/example/adjoinery/adjoinery/FeatureValue;"⟩ : MethodName) (head1 (Jvm.Cond.code (⟨"com/example/adjoinery/adjoinery/FeatureValue", "feature", "(Ljava/lang/String;)Lcom/example/adjoinery/adjoinery/FeatureValue;"⟩ : MethodName) prog_22_method_9_code 4 (some (.object "com/example/adjoinery/adjoinery/FeatureValue")) :: ws) ({ frames := 3, cells := 0, slots := 0, locals := 43 } : Room)) (fun a U => a = #[(.ref fv), (.ref nx)] ∧ Z.Warmed39 U.vm ∧ U.heap = h0) (fun _ _ _ _ _ => True) (fun _ U o U' => ∃ v L, o = .returned v ∧ Q_feat1 Z fv fl na va kn kv nx vx h0 n0 v U'.heap L ∧ FrameEnd U o U' L ({ frames := 3, cells := 0, slots := 0, locals := 43 } : Room).cells ({ frames := 3, cells := 0, slots := 0, locals := 43 } : Room).slots) := by
  refine MetFree.of_bodySF (plainFor_of_name pn_com_example_adjoinery_adjoinery_FeatureValue) hisR ?_
  intro p e s m args below meth c s₁ Bd hml0 hP hK
  obtain ⟨rfl, hZ, hh⟩ := hP
  have hx := Bd.exec
  have hby := Bd.bytes
  have hml : c.maxLocals = 4 := hml0
  have hown : s.vm.findClass "com/example/adjoinery/adjoinery/FeatureValue" = some m.cls := findClass_of_methodNamed Bd.named
  have hnm := (name_of_methodNamed Bd.named Bd.method).1
  have X0 : Stand p l e ({ frames := 3, cells := 0, slots := 0, locals := 43 } : Room) s m #[(.ref fv), (.ref nx)] below meth c s₁ [] 0 0 := Stand.of_body Bd
  have e0 : s₁.heap = h0 := by rw [← hh, Bd.state]; rfl
  have N0 := Fr.nil n0
  refine go_st (fun t k => castTop (ef_feat1 m fv nx) k) ?_
  show Go _ _ _ _ (s₁.setTop (mkF m 0 #[rv fv, rv nx, .unset, .unset] []))
  refine go_st (fun t k => XS.aloadN X0.here hx rfl (hb hby d26_0) rfl rfl k) ?_
  show Go _ _ _ _ (s₁.setTop (mkF m 1 #[rv fv, rv nx, .unset, .unset] [(.ref fv)]))
  obtain ⟨cq1, kq1, q1a, q1b, q1c⟩ := isOf hZ e0 H0
  obtain ⟨_, _, ⟨T1, L1, kk1, nn1⟩, -, X1, ⟨Lc1, hQ1, lq1, yq1, zq1⟩, st1⟩ := X0.virtualBack hx (y := (⟨"com/example/adjoinery/adjoinery/FeatureValue", "resolve", "()Lcom/example/adjoinery/adjoinery/FeatureValue;"⟩ : MethodName)) (z := (⟨"com/example/adjoinery/adjoinery/FeatureValue", "resolve", "()Lcom/example/adjoinery/adjoinery/FeatureValue;"⟩ : MethodName)) hown (mvT hZ (w85 hw)) (mvT hZ (w86 hw)) (nf_same (y := (⟨"com/example/adjoinery/adjoinery/FeatureValue", "resolve", "()Lcom/example/adjoinery/adjoinery/FeatureValue;"⟩ : MethodName)) (y' := (⟨"com/example/adjoinery/adjoinery/FeatureValue", "isStructure", "()Z"⟩ : MethodName)) (a0 := #[]) rfl (mvT hZ (w82 hw)) (notFace_of_selects (args := #[]) (mvT hZ (w83 hw)))) (mvT hZ (w88 hw)) (mvT hZ (w87 hw)) (by decide) (backOf (W := 0) (rm_resolve l Z a0 hw [] fv h0 n0 (Nat.le_trans Z0 (Nat.le_refl _)) H0 H4) hZ (w89 hw) (w2 hw) (by decide) (by decide)) q1a q1c (g := (mkF m 1 #[rv fv, rv nx, .unset, .unset] [(.ref fv)])) rfl (by rw [hml]; rfl) (Steps.refl _) (argsL := []) (rest := []) (lenOf pd_9 rfl) rfl (by show 2 * 0 + _ ≤ _; exact Nat.le_of_eq rfl) (hb hby d26_1) (fun _ _ => ⟨rfl, e0, (by decide : 0 + 0 ≤ _), (by decide : 0 + 0 ≤ _)⟩)
  dsimp only [Pt.U, Pt.locs, Pt.cells, Pt.slots] at X1 lq1 yq1 zq1 st1 hQ1
  subst lq1 yq1 zq1
  obtain ⟨h1, e1⟩ : ∃ z, T1.heap = z := ⟨_, rfl⟩
  rw [e1] at hQ1
  obtain ⟨rfl, N1q, he1⟩ := hQ1
  have N1 := Fr.app N0 N1q
  rw [he1] at e1
  refine go_tr st1 ?_
  show Go _ _ _ _ (T1.setTop (mkF m 4 #[rv fv, rv nx, .unset, .unset] [(.ref fv)]))
  obtain ⟨T2, X2, e2, st2⟩ := getF X1 hx hZ hown (host := "") (Or.inl (w31 hw)) Via.refl e1 H3 (g := (mkF m 4 #[rv fv, rv nx, .unset, .unset] [(.ref fv)])) rfl rfl (hb hby d26_4)
  refine go_st (fun t k => st2 t k) ?_
  refine go_st (fun t k => XS.astoreN X2.here hx rfl (hb hby d26_7) rfl rfl (l' := #[rv fv, rv nx, rv fl, .unset]) rfl k) ?_
  refine go_st (fun t k => XS.aloadN X2.here hx rfl (hb hby d26_8) rfl rfl k) ?_
  show Go _ _ _ _ (T2.setTop (mkF m 9 #[rv fv, rv nx, rv fl, .unset] [(.ref fl)]))
  refine go_st (fun t k => XS.ifnonnullYes X2.here hx rfl (pc0 := 9) (pc' := 16) rfl (hb hby d26_9) rfl (by decide) (by decide) k) ?_
  show Go _ _ _ _ (T2.setTop (mkF m 16 #[rv fv, rv nx, rv fl, .unset] []))
  refine go_st (fun t k => XS.aloadN X2.here hx rfl (hb hby d26_16) rfl rfl k) ?_
  refine go_st (fun t k => XS.aloadN X2.here hx rfl (hb hby d26_17) rfl rfl k) ?_
  show Go _ _ _ _ (T2.setTop (mkF m 18 #[rv fv, rv nx, rv fl, .unset] [(.ref nx), (.ref fl)]))
  obtain ⟨cq3, kq3, q3a, q3b, q3c⟩ := isOf hZ e2 H5
  obtain ⟨_, _, ⟨T3, L3, kk3, nn3⟩, -, X3, ⟨Lc3, hQ3, lq3, yq3, zq3⟩, st3⟩ := X2.virtualBack hx (y := (⟨"com/example/adjoinery/adjoinery/FeatureList", "get", "(Ljava/lang/String;)Lcom/example/adjoinery/adjoinery/FeatureValue;"⟩ : MethodName)) (z := (⟨"com/example/adjoinery/adjoinery/FeatureList", "get", "(Ljava/lang/String;)Lcom/example/adjoinery/adjoinery/FeatureValue;"⟩ : MethodName)) hown (mvT hZ (w111 hw)) (mvT hZ (w112 hw)) (notFace_of_selects (args := #[]) (mvT hZ (w114 hw))) (mvT hZ (w114 hw)) (mvT hZ (w113 hw)) (by decide) (backOf (W := 0) (rm_get1 l Z a0 hw [] fl na va kn kv nx vx h0 n0 (Nat.le_trans Z0 (Nat.le_refl _)) H5 H6 H7 H8 H9 H10 H11 H12) hZ (w115 hw) (w8 hw) (by decide) (by decide)) q3a q3c (g := (mkF m 18 #[rv fv, rv nx, rv fl, .unset] [(.ref nx), (.ref fl)])) rfl (by rw [hml]; rfl) (Steps.refl _) (argsL := [(.ref nx)]) (rest := []) (lenOf pd_12 rfl) rfl (by show 2 * 0 + _ ≤ _; exact Nat.le_of_eq rfl) (hb hby d26_18) (fun _ _ => ⟨rfl, e2, (by decide : 0 + 0 ≤ _), (by decide : 0 + 0 ≤ _)⟩)
  dsimp only [Pt.U, Pt.locs, Pt.cells, Pt.slots] at X3 lq3 yq3 zq3 st3 hQ3
  subst lq3 yq3 zq3
  obtain ⟨h3, e3⟩ : ∃ z, T3.heap = z := ⟨_, rfl⟩
  rw [e3] at hQ3
  obtain ⟨rfl, N3q, he3⟩ := hQ3
  have N3 := Fr.app N1 N3q
  rw [he3] at e3
  refine go_tr st3 ?_
  show Go _ _ _ _ (T3.setTop (mkF m 21 #[rv fv, rv nx, rv fl, .unset] [(.ref vx)]))
  refine go_st (fun t k => XS.astoreN X3.here hx rfl (hb hby d26_21) rfl rfl (l' := #[rv fv, rv nx, rv fl, rv vx]) rfl k) ?_
  refine go_st (fun t k => XS.aloadN X3.here hx rfl (hb hby d26_22) rfl rfl k) ?_
  show Go _ _ _ _ (T3.setTop (mkF m 23 #[rv fv, rv nx, rv fl, rv vx] [(.ref vx)]))
  refine go_st (fun t k => XS.ifnonnullYes X3.here hx rfl (pc0 := 23) (pc' := 30) rfl (hb hby d26_23) rfl (by decide) (by decide) k) ?_
  show Go _ _ _ _ (T3.setTop (mkF m 30 #[rv fv, rv nx, rv fl, rv vx] []))
  refine go_st (fun t k => XS.aloadN X3.here hx rfl (hb hby d26_30) rfl rfl k) ?_
  show Go _ _ _ _ (T3.setTop (mkF m 31 #[rv fv, rv nx, rv fl, rv vx] [(.ref vx)]))
  obtain ⟨cq4, kq4, q4a, q4b, q4c⟩ := isOf hZ e3 H13
  obtain ⟨_, _, ⟨T4, L4, kk4, nn4⟩, -, X4, ⟨Lc4, hQ4, lq4, yq4, zq4⟩, st4⟩ := X3.virtualBack hx (y := (⟨"com/example/adjoinery/adjoinery/FeatureValue", "resolve", "()Lcom/example/adjoinery/adjoinery/FeatureValue;"⟩ : MethodName)) (z := (⟨"com/example/adjoinery/adjoinery/FeatureValue", "resolve", "()Lcom/example/adjoinery/adjoinery/FeatureValue;"⟩ : MethodName)) hown (mvT hZ (w85 hw)) (mvT hZ (w86 hw)) (nf_same (y := (⟨"com/example/adjoinery/adjoinery/FeatureValue", "resolve", "()Lcom/example/adjoinery/adjoinery/FeatureValue;"⟩ : MethodName)) (y' := (⟨"com/example/adjoinery/adjoinery/FeatureValue", "isStructure", "()Z"⟩ : MethodName)) (a0 := #[]) rfl (mvT hZ (w82 hw)) (notFace_of_selects (args := #[]) (mvT hZ (w83 hw)))) (mvT hZ (w88 hw)) (mvT hZ (w87 hw)) (by decide) (backOf (W := 0) (rm_resolve l Z a0 hw [] vx h0 n0 (Nat.le_trans Z0 (Nat.le_refl _)) H13 H14) hZ (w89 hw) (w2 hw) (by decide) (by decide)) q4a q4c (g := (mkF m 31 #[rv fv, rv nx, rv fl, rv vx] [(.ref vx)])) rfl (by rw [hml]; rfl) (Steps.refl _) (argsL := []) (rest := []) (lenOf pd_9 rfl) rfl (by show 2 * 0 + _ ≤ _; exact Nat.le_of_eq rfl) (hb hby d26_31) (fun _ _ => ⟨rfl, e3, (by decide : 0 + 0 ≤ _), (by decide : 0 + 0 ≤ _)⟩)
  dsimp only [Pt.U, Pt.locs, Pt.cells, Pt.slots] at X4 lq4 yq4 zq4 st4 hQ4
  subst lq4 yq4 zq4
  obtain ⟨h4, e4⟩ : ∃ z, T4.heap = z := ⟨_, rfl⟩
  rw [e4] at hQ4
  obtain ⟨rfl, N4q, he4⟩ := hQ4
  have N4 := Fr.app N3 N4q
  rw [he4] at e4
  refine go_tr st4 ?_
  show Go _ _ _ _ (T4.setTop (mkF m 34 #[rv fv, rv nx, rv fl, rv vx] [(.ref vx)]))
  obtain ⟨fs, hr, hrun, hended, hW, hsame⟩ := X4.leave (v := some (.ref vx)) (fun h => by rw [Bd.returns] at h; cases h)
  refine ⟨_, _, ?_, hrun, hended, _, _, rfl, ?_, ⟨_, rfl⟩, hW, hsame.mono (by decide) (by decide)⟩
  · exact retOut X4 hx Bd.returns rfl (Or.inr (Or.inr (Or.inr (Or.inr ⟨rfl, rfl, rfl⟩)))) (hb hby d26_34) hr
  · show Q_feat1 _ _ _ _ _ _ _ _ _ _ _ _ T4.heap _
    rw [e4]
    exact ⟨rfl, N4, rfl⟩
def Q_fladd (Z : State) (fl : Addr) (na : Addr) (va : Addr) (kn : ClassId) (kv : ClassId) (nx : Addr) (vx : Addr) (h0 : Heap) (n0 : Nat) (vR : Option Value) (h : Heap) (L : List Loc) : Prop := vR = none ∧ Fr n0 L ∧ Keep h0 h [na, va, fl] ∧ (Exa Z h fl cFL) ∧ (Fld Z h fl cFL "names" "[Ljava/lang/String;" (.ref na)) ∧ (Fld Z h fl cFL "values" "[Lcom/example/adjoinery/adjoinery/FeatureValue;" (.ref va)) ∧ (Fld Z h fl cFL "positions" "Ljava/util/Map;" .null) ∧ (Fld Z h fl cFL "size" "I" (.int 1)) ∧ (Arv Z h na kn (.object "java/lang/String") (4 : Int32) [(.ref nx), .null, .null, .null] .null) ∧ (Arv Z h va kv (.object "com/example/adjoinery/adjoinery/FeatureValue") (4 : Int32) [(.ref vx), .null, .null, .null] .null)
theorem ef_fladd (m : MethodId) (x0 : Addr) (x1 : Addr) (x2 : Addr) : entryFrame m #[(.ref x0), (.ref x1), (.ref x2)] 4 = mkF m 0 #[.val (.ref x0), .val (.ref x1), .val (.ref x2), .unset] [] := by first | (simp [entryFrame, mkF, argsToLocals, Value.category]; done) | rfl
set_option maxRecDepth 65536 in
set_option maxHeartbeats 40000000 in
theorem rm_fladd (l : Launch) (Z : State) (a0 : Array Value) (hw : ∀ d ∈ tables_1, d.before a0 Z = true) (ws : List Jvm.Cond) (fl : Addr) (na : Addr) (va : Addr) (kn : ClassId) (kv : ClassId) (nx : Addr) (vx : Addr) (h0 : Heap) (n0 : Nat) (Z0 : n0 ≤ h0.size) (H0 : Exa Z h0 fl cFL) (H1 : Fld Z h0 fl cFL "names" "[Ljava/lang/String;" (.ref na)) (H2 : Fld Z h0 fl cFL "values" "[Lcom/example/adjoinery/adjoinery/FeatureValue;" (.ref va)) (H3 : Fld Z h0 fl cFL "positions" "Ljava/util/Map;" .null) (H4 : Fld Z h0 fl cFL "size" "I" (.int 0)) (H5 : Arv Z h0 na kn (.object "java/lang/String") (4 : Int32) [.null, .null, .null, .null] .null) (H6 : Arv Z h0 va kv (.object "com/example/adjoinery/adjoinery/FeatureValue") (4 : Int32) [.null, .null, .null, .null] .null) (H7 : Exa Z h0 nx cST) (H8 : Exa Z h0 vx cFV) (ov_kn : Ovr Z kn "java/lang/String") (ov_kv : Ovr Z kv "com/example/adjoinery/adjoinery/FeatureValue") (g_fl : n0 ≤ fl) (g_na : n0 ≤ na) (g_va : n0 ≤ va) (ne_na_va : na ≠ va) :
    MetFree l (⟨"com/example/adjoinery/adjoinery/FeatureList", "add", "(Ljava/lang/String;Lcom/example/adjoinery/adjoinery/FeatureValue;)V"⟩ : MethodName) (head1 (Jvm.Cond.code (⟨"com/example/adjoinery/adjoinery/FeatureList", "add", "(Ljava/lang/String;Lcom/example/adjoinery/adjoinery/FeatureValue;)V"⟩ : MethodName) prog_20_method_6_code 4 none :: ws) ({ frames := 0, cells := 0, slots := 0, locals := 0 } : Room)) (fun a U => a = #[(.ref fl), (.ref nx), (.ref vx)] ∧ Z.Warmed39 U.vm ∧ U.heap = h0) (fun _ _ _ _ _ => True) (fun _ U o U' => ∃ v L, o = .returned v ∧ Q_fladd Z fl na va kn kv nx vx h0 n0 v U'.heap L ∧ FrameEnd U o U' L ({ frames := 0, cells := 0, slots := 0, locals := 0 } : Room).cells ({ frames := 0, cells := 0, slots := 0, locals := 0 } : Room).slots) := by
  refine MetFree.of_bodySF (plainFor_of_name pn_com_example_adjoinery_adjoinery_FeatureList) hisR ?_
  intro p e s m args below meth c s₁ Bd hml0 hP hK
  obtain ⟨rfl, hZ, hh⟩ := hP
  have hx := Bd.exec
  have hby := Bd.bytes
  have hml : c.maxLocals = 4 := hml0
  have hown : s.vm.findClass "com/example/adjoinery/adjoinery/FeatureList" = some m.cls := findClass_of_methodNamed Bd.named
  have hnm := (name_of_methodNamed Bd.named Bd.method).1
  have X0 : Stand p l e ({ frames := 0, cells := 0, slots := 0, locals := 0 } : Room) s m #[(.ref fl), (.ref nx), (.ref vx)] below meth c s₁ [] 0 0 := Stand.of_body Bd
  have e0 : s₁.heap = h0 := by rw [← hh, Bd.state]; rfl
  have N0 := Fr.nil n0
  refine go_st (fun t k => castTop (ef_fladd m fl nx vx) k) ?_
  show Go _ _ _ _ (s₁.setTop (mkF m 0 #[rv fl, rv nx, rv vx, .unset] []))
  refine go_st (fun t k => XS.aloadN X0.here hx rfl (hb hby d27_0) rfl rfl k) ?_
  show Go _ _ _ _ (s₁.setTop (mkF m 1 #[rv fl, rv nx, rv vx, .unset] [(.ref fl)]))
  obtain ⟨T1, X1, e1, st1⟩ := getF X0 hx hZ hown (host := "") (Or.inl (w122 hw)) Via.refl e0 H4 (g := (mkF m 1 #[rv fl, rv nx, rv vx, .unset] [(.ref fl)])) rfl rfl (hb hby d27_1)
  refine go_st (fun t k => st1 t k) ?_
  refine go_st (fun t k => XS.aloadN X1.here hx rfl (hb hby d27_4) rfl rfl k) ?_
  show Go _ _ _ _ (T1.setTop (mkF m 5 #[rv fl, rv nx, rv vx, .unset] [(.ref fl), (.int 0)]))
  obtain ⟨T2, X2, e2, st2⟩ := getF X1 hx hZ hown (host := "") (Or.inl (w17 hw)) Via.refl e1 H1 (g := (mkF m 5 #[rv fl, rv nx, rv vx, .unset] [(.ref fl), (.int 0)])) rfl rfl (hb hby d27_5)
  refine go_st (fun t k => st2 t k) ?_
  show Go _ _ _ _ (T2.setTop (mkF m 8 #[rv fl, rv nx, rv vx, .unset] [(.ref na), (.int 0)]))
  obtain ⟨zc3, zA3, zq3, zS3, zN3, zH3, zG3⟩ := id H5
  refine go_st (fun t k => X2.arraylength hx (by rw [e2]; exact zA3.1) (State.isArrayOf_alike hZ.alike zA3.2.1) (g := (mkF m 8 #[rv fl, rv nx, rv vx, .unset] [(.ref na), (.int 0)])) rfl rfl (hb hby d27_8) t k) ?_
  rw [len_of zS3 zN3]
  show Go _ _ _ _ (T2.setTop (mkF m 9 #[rv fl, rv nx, rv vx, .unset] [(.int 4), (.int 0)]))
  refine go_st (fun t k => XS.icmpYes X2.here hx rfl (pc0 := 9) (pc' := 53) rfl (hb hby d27_9) rfl (feq ((by decide) : ¬ ((0 : Int32) = (4 : Int32)))).2 (by decide) (by decide) k) ?_
  show Go _ _ _ _ (T2.setTop (mkF m 53 #[rv fl, rv nx, rv vx, .unset] []))
  refine go_st (fun t k => XS.aloadN X2.here hx rfl (hb hby d27_53) rfl rfl k) ?_
  show Go _ _ _ _ (T2.setTop (mkF m 54 #[rv fl, rv nx, rv vx, .unset] [(.ref fl)]))
  obtain ⟨T4, X4, e4, st4⟩ := getF X2 hx hZ hown (host := "") (Or.inl (w17 hw)) Via.refl e2 H1 (g := (mkF m 54 #[rv fl, rv nx, rv vx, .unset] [(.ref fl)])) rfl rfl (hb hby d27_54)
  refine go_st (fun t k => st4 t k) ?_
  refine go_st (fun t k => XS.aloadN X4.here hx rfl (hb hby d27_57) rfl rfl k) ?_
  show Go _ _ _ _ (T4.setTop (mkF m 58 #[rv fl, rv nx, rv vx, .unset] [(.ref fl), (.ref na)]))
  obtain ⟨T5, X5, e5, st5⟩ := getF X4 hx hZ hown (host := "") (Or.inl (w122 hw)) Via.refl e4 H4 (g := (mkF m 58 #[rv fl, rv nx, rv vx, .unset] [(.ref fl), (.ref na)])) rfl rfl (hb hby d27_58)
  refine go_st (fun t k => st5 t k) ?_
  refine go_st (fun t k => XS.aloadN X5.here hx rfl (hb hby d27_61) rfl rfl k) ?_
  show Go _ _ _ _ (T5.setTop (mkF m 62 #[rv fl, rv nx, rv vx, .unset] [(.ref nx), (.int 0), (.ref na)]))
  obtain ⟨zc6, zA6, zq6, zS6, zN6, zH6, zG6⟩ := id H5
  have hin6 : ¬ ((0 : Int32) < 0 ∨ zc6.slots.size ≤ ((0 : Int32)).toNatClampNeg) := inb_of zS6 ⟨by decide, by decide⟩
  obtain ⟨T6, h6, X6, e6, W6, st6⟩ := stR X5 hx hZ e5 zA6 (j := (0 : Int32)) hin6 rfl (Sto.ofV zA6 zq6 ov_kn (Ins.self H7)) (g := (mkF m 62 #[rv fl, rv nx, rv vx, .unset] [(.ref nx), (.int 0), (.ref na)])) rfl rfl (hb hby d27_62)
  have N6 := Fr.snoc X6 N0 g_na
  have f7 : Arv Z h6 na kn (.object "java/lang/String") (4 : Int32) [(.ref nx), .null, .null, .null] .null := Arv.set zA6 zq6 zS6 zN6 zH6 zG6 rfl W6 0 rfl (Nat.le_of_ble_eq_true rfl)
  refine go_st (fun t k => st6 t k) ?_
  refine go_st (fun t k => XS.aloadN X6.here hx rfl (hb hby d27_63) rfl rfl k) ?_
  show Go _ _ _ _ (T6.setTop (mkF m 64 #[rv fl, rv nx, rv vx, .unset] [(.ref fl)]))
  have nq8 : fl ≠ na := Exa.neArv H0 H5 (w7 hw)
  have f9 : Fld Z h6 fl cFL "values" "[Lcom/example/adjoinery/adjoinery/FeatureValue;" (.ref va) := (H2.other W6 (Or.inl nq8))
  obtain ⟨T10, X10, e10, st10⟩ := getF X6 hx hZ hown (host := "") (Or.inl (w21 hw)) Via.refl e6 f9 (g := (mkF m 64 #[rv fl, rv nx, rv vx, .unset] [(.ref fl)])) rfl rfl (hb hby d27_64)
  refine go_st (fun t k => st10 t k) ?_
  refine go_st (fun t k => XS.aloadN X10.here hx rfl (hb hby d27_67) rfl rfl k) ?_
  show Go _ _ _ _ (T10.setTop (mkF m 68 #[rv fl, rv nx, rv vx, .unset] [(.ref fl), (.ref va)]))
  have f11 : Fld Z h6 fl cFL "size" "I" (.int 0) := (H4.other W6 (Or.inl nq8))
  obtain ⟨T12, X12, e12, st12⟩ := getF X10 hx hZ hown (host := "") (Or.inl (w122 hw)) Via.refl e10 f11 (g := (mkF m 68 #[rv fl, rv nx, rv vx, .unset] [(.ref fl), (.ref va)])) rfl rfl (hb hby d27_68)
  refine go_st (fun t k => st12 t k) ?_
  refine go_st (fun t k => XS.aloadN X12.here hx rfl (hb hby d27_71) rfl rfl k) ?_
  show Go _ _ _ _ (T12.setTop (mkF m 72 #[rv fl, rv nx, rv vx, .unset] [(.ref vx), (.int 0), (.ref va)]))
  have f13 : Arv Z h6 va kv (.object "com/example/adjoinery/adjoinery/FeatureValue") (4 : Int32) [.null, .null, .null, .null] .null := (H6.other W6 (Ne.symm ne_na_va))
  have f14 : Exa Z h6 vx cFV := (H8.wr W6)
  obtain ⟨zc15, zA15, zq15, zS15, zN15, zH15, zG15⟩ := id f13
  have hin15 : ¬ ((0 : Int32) < 0 ∨ zc15.slots.size ≤ ((0 : Int32)).toNatClampNeg) := inb_of zS15 ⟨by decide, by decide⟩
  obtain ⟨T15, h15, X15, e15, W15, st15⟩ := stR X12 hx hZ e12 zA15 (j := (0 : Int32)) hin15 rfl (Sto.ofV zA15 zq15 ov_kv (Ins.self f14)) (g := (mkF m 72 #[rv fl, rv nx, rv vx, .unset] [(.ref vx), (.int 0), (.ref va)])) rfl rfl (hb hby d27_72)
  have N15 := Fr.snoc X15 N6 g_va
  have f16 : Arv Z h15 va kv (.object "com/example/adjoinery/adjoinery/FeatureValue") (4 : Int32) [(.ref vx), .null, .null, .null] .null := Arv.set zA15 zq15 zS15 zN15 zH15 zG15 rfl W15 0 rfl (Nat.le_of_ble_eq_true rfl)
  refine go_st (fun t k => st15 t k) ?_
  refine go_st (fun t k => XS.aloadN X15.here hx rfl (hb hby d27_73) rfl rfl k) ?_
  refine go_st (fun t k => XS.dup X15.here hx rfl (hb hby d27_74) rfl rfl k) ?_
  show Go _ _ _ _ (T15.setTop (mkF m 75 #[rv fl, rv nx, rv vx, .unset] [(.ref fl), (.ref fl)]))
  have nq17 : fl ≠ va := Exa.neArv H0 H6 (w7 hw)
  have f18 : Fld Z h15 fl cFL "size" "I" (.int 0) := (f11.other W15 (Or.inl nq17))
  obtain ⟨T19, X19, e19, st19⟩ := getF X15 hx hZ hown (host := "") (Or.inl (w122 hw)) Via.refl e15 f18 (g := (mkF m 75 #[rv fl, rv nx, rv vx, .unset] [(.ref fl), (.ref fl)])) rfl rfl (hb hby d27_75)
  refine go_st (fun t k => st19 t k) ?_
  refine go_st (fun t k => XS.iconst X19.here hx rfl (hb hby d27_78) k) ?_
  show Go _ _ _ _ (T19.setTop (mkF m 79 #[rv fl, rv nx, rv vx, .unset] [(.int 1), (.int 0), (.ref fl)]))
  refine go_st (fun t k => XS.iadd X19.here hx rfl (hb hby d27_79) rfl k) ?_
  rw [show ((0 : Int32) + (1 : Int32)) = (1 : Int32) from by decide]
  show Go _ _ _ _ (T19.setTop (mkF m 80 #[rv fl, rv nx, rv vx, .unset] [(.int 1), (.ref fl)]))
  have f20 : Exa Z h15 fl cFL := ((H0.wr W6).wr W15)
  obtain ⟨T21, h21, X21, e21, W21, st21⟩ := putF X19 hx hZ hown (host := "") (Or.inl (w122 hw)) Via.refl e19 f18 f20 (Or.inl (w123 hw)) (w7 hw) (ty := .int) (by decide) rfl rfl (g := (mkF m 80 #[rv fl, rv nx, rv vx, .unset] [(.int 1), (.ref fl)])) rfl rfl (hb hby d27_80)
  have N21 := Fr.snoc X21 N15 g_fl
  have f22 : Fld Z h21 fl cFL "size" "I" (.int 1) := f18.same W21
  refine go_st (fun t k => st21 t k) ?_
  refine go_st (fun t k => XS.aloadN X21.here hx rfl (hb hby d27_83) rfl rfl k) ?_
  show Go _ _ _ _ (T21.setTop (mkF m 84 #[rv fl, rv nx, rv vx, .unset] [(.ref fl)]))
  have f23 : Fld Z h21 fl cFL "positions" "Ljava/util/Map;" .null := (((H3.other W6 (Or.inl nq8)).other W15 (Or.inl nq17)).other W21 (Or.inr (slot_ne (Or.inl (w121 hw)) (Or.inl (w123 hw)) (by decide) (t := (.object "java/util/Map")) (t' := .int) (by decide) (by decide))))
  obtain ⟨T24, X24, e24, st24⟩ := getF X21 hx hZ hown (host := "") (Or.inl (w120 hw)) Via.refl e21 f23 (g := (mkF m 84 #[rv fl, rv nx, rv vx, .unset] [(.ref fl)])) rfl rfl (hb hby d27_84)
  refine go_st (fun t k => st24 t k) ?_
  show Go _ _ _ _ (T24.setTop (mkF m 87 #[rv fl, rv nx, rv vx, .unset] [.null]))
  refine go_st (fun t k => XS.ifnullYes X24.here hx rfl (pc0 := 87) (pc' := 113) rfl (hb hby d27_87) rfl (by decide) (by decide) k) ?_
  show Go _ _ _ _ (T24.setTop (mkF m 113 #[rv fl, rv nx, rv vx, .unset] []))
  refine go_st (fun t k => XS.aloadN X24.here hx rfl (hb hby d27_113) rfl rfl k) ?_
  show Go _ _ _ _ (T24.setTop (mkF m 114 #[rv fl, rv nx, rv vx, .unset] [(.ref fl)]))
  obtain ⟨T25, X25, e25, st25⟩ := getF X24 hx hZ hown (host := "") (Or.inl (w122 hw)) Via.refl e24 f22 (g := (mkF m 114 #[rv fl, rv nx, rv vx, .unset] [(.ref fl)])) rfl rfl (hb hby d27_114)
  refine go_st (fun t k => st25 t k) ?_
  refine go_st (fun t k => XS.bipush X25.here hx rfl (hb hby d27_117) k) ?_
  show Go _ _ _ _ (T25.setTop (mkF m 119 #[rv fl, rv nx, rv vx, .unset] [(.int 8), (.int 1)]))
  refine go_st (fun t k => XS.icmpYes X25.here hx rfl (pc0 := 119) (pc' := 169) rfl (hb hby d27_119) rfl (flt ((by decide) : ¬ ((8 : Int32) < (1 : Int32)))).2.2.2 (by decide) (by decide) k) ?_
  show Go _ _ _ _ (T25.setTop (mkF m 169 #[rv fl, rv nx, rv vx, .unset] []))
  have f26 : Exa Z h21 fl cFL := (f20.wr W21)
  have f27 : Fld Z h21 fl cFL "names" "[Ljava/lang/String;" (.ref na) := (((H1.other W6 (Or.inl nq8)).other W15 (Or.inl nq17)).other W21 (Or.inr (slot_ne (Or.inl (w18 hw)) (Or.inl (w123 hw)) (by decide) (t := (.array (.object "java/lang/String"))) (t' := .int) (by decide) (by decide))))
  have f28 : Fld Z h21 fl cFL "values" "[Lcom/example/adjoinery/adjoinery/FeatureValue;" (.ref va) := ((f9.other W15 (Or.inl nq17)).other W21 (Or.inr (slot_ne (Or.inl (w22 hw)) (Or.inl (w123 hw)) (by decide) (t := (.array (.object "com/example/adjoinery/adjoinery/FeatureValue"))) (t' := .int) (by decide) (by decide))))
  have f29 : Arv Z h21 na kn (.object "java/lang/String") (4 : Int32) [(.ref nx), .null, .null, .null] .null := ((f7.other W15 ne_na_va).other W21 (Ne.symm nq8))
  have f30 : Arv Z h21 va kv (.object "com/example/adjoinery/adjoinery/FeatureValue") (4 : Int32) [(.ref vx), .null, .null, .null] .null := (f16.other W21 (Ne.symm nq17))
  have ke31 : Keep h0 h6 [na, va, fl] := (Keep.wr (Keep.refl h0 [na, va, fl]) W6 (Or.inl (List.mem_of_getElem? (i := 0) rfl)))
  have ke32 : Keep h0 h15 [na, va, fl] := (Keep.wr ke31 W15 (Or.inl (List.mem_of_getElem? (i := 1) rfl)))
  have ke33 : Keep h0 h21 [na, va, fl] := (Keep.wr ke32 W21 (Or.inl (List.mem_of_getElem? (i := 2) rfl)))
  obtain ⟨fs, hr, hrun, hended, hW, hsame⟩ := X25.leave (v := none) (fun _ => rfl)
  refine ⟨_, _, ?_, hrun, hended, _, _, rfl, ?_, ⟨_, rfl⟩, hW, hsame.mono (by decide) (by decide)⟩
  · exact X25.returnOut hx Bd.returns (hb hby d27_169) hr
  · show Q_fladd _ _ _ _ _ _ _ _ _ _ _ T25.heap _
    rw [e25]
    exact ⟨rfl, N21, ke33, f26, f27, f28, f23, f22, f29, f30⟩
theorem lam_lays : ((Jvm.Lambda.Shape.file (Jvm.Lambda.Shape.mk "java/lang/Runnable" "run" (Jvm.ClassFile.MethodDescriptor.mk ([] : List Jvm.ClassFile.FieldType) (Option.none : Option Jvm.ClassFile.FieldType)) ([(Jvm.ClassFile.FieldType.object "com/example/adjoinery/adjoinery/FeatureList")] : List Jvm.ClassFile.FieldType) (5 : Nat) "com/example/adjoinery/adjoinery/FeatureList" "removeLast" (Jvm.ClassFile.MethodDescriptor.mk ([] : List Jvm.ClassFile.FieldType) (Option.none : Option Jvm.ClassFile.FieldType)) false (Jvm.ClassFile.MethodDescriptor.mk ([] : List Jvm.ClassFile.FieldType) (Option.none : Option Jvm.ClassFile.FieldType))) "com/example/adjoinery/adjoinery/FeatureValue").bind (layoutFields · 0)).map (·.2.1) = some #[.object "com/example/adjoinery/adjoinery/FeatureList"] := by decide +kernel
def Q_pia (Z : State) (fv : Addr) (fl : Addr) (na : Addr) (va : Addr) (kn : ClassId) (kv : ClassId) (nx : Addr) (vx : Addr) (tr : Addr) (lu : Addr) (lc : Addr) (de : Addr) (kd : ClassId) (h0 : Heap) (n0 : Nat) (vR : Option Value) (h : Heap) (L : List Loc) : Prop := vR = some .null ∧ Fr n0 L ∧ Keep h0 h [na, va, fl, lu, lc] ∧ (Exa Z h fl cFL) ∧ (Fld Z h fl cFL "names" "[Ljava/lang/String;" (.ref na)) ∧ (Fld Z h fl cFL "values" "[Lcom/example/adjoinery/adjoinery/FeatureValue;" (.ref va)) ∧ (Fld Z h fl cFL "positions" "Ljava/util/Map;" .null) ∧ (Fld Z h fl cFL "size" "I" (.int 1)) ∧ (Arv Z h na kn (.object "java/lang/String") (4 : Int32) [(.ref nx), .null, .null, .null] .null) ∧ (Arv Z h va kv (.object "com/example/adjoinery/adjoinery/FeatureValue") (4 : Int32) [(.ref vx), .null, .null, .null] .null)
theorem ef_pia (m : MethodId) (x0 : Addr) (x1 : Addr) (x2 : Addr) (x3 : Addr) : entryFrame m #[(.ref x0), (.ref x1), (.ref x2), (.ref x3)] 5 = mkF m 0 #[.val (.ref x0), .val (.ref x1), .val (.ref x2), .val (.ref x3), .unset] [] := by first | (simp [entryFrame, mkF, argsToLocals, Value.category]; done) | rfl
set_option maxRecDepth 65536 in
set_option maxHeartbeats 40000000 in
theorem rm_pia (l : Launch) (Z : State) (a0 : Array Value) (hw : ∀ d ∈ tables_1, d.before a0 Z = true) (ws : List Jvm.Cond) (fv : Addr) (fl : Addr) (na : Addr) (va : Addr) (kn : ClassId) (kv : ClassId) (nx : Addr) (vx : Addr) (tr : Addr) (lu : Addr) (lc : Addr) (de : Addr) (kd : ClassId) (h0 : Heap) (n0 : Nat) (Z0 : n0 ≤ h0.size) (H0 : Exa Z h0 fv cFV) (H1 : Fld Z h0 fv cFV "atom" "Ljava/lang/String;" .null) (H2 : Fld Z h0 fv cFV "alternatives" "Ljava/util/Set;" .null) (H3 : Fld Z h0 fv cFV "features" "Lcom/example/adjoinery/adjoinery/FeatureList;" (.ref fl)) (H4 : Fld Z h0 fv cFV "forward" "Lcom/example/adjoinery/adjoinery/FeatureValue;" .null) (H5 : Exa Z h0 fl cFL) (H6 : Fld Z h0 fl cFL "names" "[Ljava/lang/String;" (.ref na)) (H7 : Fld Z h0 fl cFL "values" "[Lcom/example/adjoinery/adjoinery/FeatureValue;" (.ref va)) (H8 : Fld Z h0 fl cFL "positions" "Ljava/util/Map;" .null) (H9 : Fld Z h0 fl cFL "size" "I" (.int 0)) (H10 : Arv Z h0 na kn (.object "java/lang/String") (4 : Int32) [.null, .null, .null, .null] .null) (H11 : Arv Z h0 va kv (.object "com/example/adjoinery/adjoinery/FeatureValue") (4 : Int32) [.null, .null, .null, .null] .null) (H12 : Exa Z h0 nx cST) (H13 : Exa Z h0 vx cFV) (ov_kn : Ovr Z kn "java/lang/String") (ov_kv : Ovr Z kv "com/example/adjoinery/adjoinery/FeatureValue") (g_fl : n0 ≤ fl) (g_na : n0 ≤ na) (g_va : n0 ≤ va) (ne_na_va : na ≠ va) (H20 : Exa Z h0 tr cTR) (H21 : Fld Z h0 tr cTR "undos" "Ljava/util/List;" (.ref lu)) (H22 : Fld Z h0 tr cTR "changed" "Ljava/util/List;" (.ref lc)) (H23 : Exa Z h0 lu cAL) (H24 : Fld Z h0 lu cAL "elementData" "[Ljava/lang/Object;" (.ref de)) (H25 : Fld Z h0 lu cAL "size" "I" (.int 0)) (H26 : Fld Z h0 lu "java/util/AbstractList" "modCount" "I" (.int 0)) (H27 : Exa Z h0 lc cAL) (H28 : Fld Z h0 lc cAL "elementData" "[Ljava/lang/Object;" (.ref de)) (H29 : Fld Z h0 lc cAL "size" "I" (.int 0)) (H30 : Fld Z h0 lc "java/util/AbstractList" "modCount" "I" (.int 0)) (g_lu : n0 ≤ lu) (g_lc : n0 ≤ lc) (ne_lu_lc : lu ≠ lc) (H34 : Arv Z h0 de kd (.object "java/lang/Object") (0 : Int32) [] .null) (DES : Sta Z Z.heap "java/util/ArrayList" "DEFAULTCAPACITY_EMPTY_ELEMENTDATA" "[Ljava/lang/Object;" (.ref de)) (zl_de : de < Z.heap.size) (O0 : Old Z n0 h0) :
    MetFree l (⟨"com/example/adjoinery/adjoinery/FeatureValue", "putIfAbsent", "(Ljava/lang/String;Lcom/example/adjoinery/adjoinery/FeatureValue;Lcom/example/adjoinery/adjoinery/Trail;)Lcom/example/adjoinery/adjoinery/FeatureValue;"⟩ : MethodName) (head1 (Jvm.Cond.code (⟨"com/example/adjoinery/adjoinery/FeatureValue", "putIfAbsent", "(Ljava/lang/String;Lcom/example/adjoinery/adjoinery/FeatureValue;Lcom/example/adjoinery/adjoinery/Trail;)Lcom/example/adjoinery/adjoinery/FeatureValue;"⟩ : MethodName) prog_22_method_21_code 5 (some (.object "com/example/adjoinery/adjoinery/FeatureValue")) :: ws) ({ frames := 6, cells := 3, slots := 21, locals := 3075 } : Room)) (fun a U => a = #[(.ref fv), (.ref nx), (.ref vx), (.ref tr)] ∧ Z.Warmed39 U.vm ∧ U.heap = h0) (fun _ _ _ _ _ => True) (fun _ U o U' => ∃ v L, o = .returned v ∧ Q_pia Z fv fl na va kn kv nx vx tr lu lc de kd h0 n0 v U'.heap L ∧ FrameEnd U o U' L ({ frames := 6, cells := 3, slots := 21, locals := 3075 } : Room).cells ({ frames := 6, cells := 3, slots := 21, locals := 3075 } : Room).slots) := by
  refine MetFree.of_bodySF (plainFor_of_name pn_com_example_adjoinery_adjoinery_FeatureValue) hisR ?_
  intro p e s m args below meth c s₁ Bd hml0 hP hK
  obtain ⟨rfl, hZ, hh⟩ := hP
  have hx := Bd.exec
  have hby := Bd.bytes
  have hml : c.maxLocals = 5 := hml0
  have hown : s.vm.findClass "com/example/adjoinery/adjoinery/FeatureValue" = some m.cls := findClass_of_methodNamed Bd.named
  have hnm := (name_of_methodNamed Bd.named Bd.method).1
  have X0 : Stand p l e ({ frames := 6, cells := 3, slots := 21, locals := 3075 } : Room) s m #[(.ref fv), (.ref nx), (.ref vx), (.ref tr)] below meth c s₁ [] 0 0 := Stand.of_body Bd
  have e0 : s₁.heap = h0 := by rw [← hh, Bd.state]; rfl
  have N0 := Fr.nil n0
  refine go_st (fun t k => castTop (ef_pia m fv nx vx tr) k) ?_
  show Go _ _ _ _ (s₁.setTop (mkF m 0 #[rv fv, rv nx, rv vx, rv tr, .unset] []))
  refine go_st (fun t k => XS.aloadN X0.here hx rfl (hb hby d28_0) rfl rfl k) ?_
  show Go _ _ _ _ (s₁.setTop (mkF m 1 #[rv fv, rv nx, rv vx, rv tr, .unset] [(.ref fv)]))
  obtain ⟨T1, X1, e1, st1⟩ := getF X0 hx hZ hown (host := "") (Or.inl (w31 hw)) Via.refl e0 H3 (g := (mkF m 1 #[rv fv, rv nx, rv vx, rv tr, .unset] [(.ref fv)])) rfl rfl (hb hby d28_1)
  refine go_st (fun t k => st1 t k) ?_
  refine go_st (fun t k => XS.aloadN X1.here hx rfl (hb hby d28_4) rfl rfl k) ?_
  show Go _ _ _ _ (T1.setTop (mkF m 5 #[rv fv, rv nx, rv vx, rv tr, .unset] [(.ref nx), (.ref fl)]))
  obtain ⟨cq2, kq2, q2a, q2b, q2c⟩ := isOf hZ e1 H5
  obtain ⟨_, _, ⟨T2, L2, kk2, nn2⟩, -, X2, ⟨Lc2, hQ2, lq2, yq2, zq2⟩, st2⟩ := X1.virtualBack hx (y := (⟨"com/example/adjoinery/adjoinery/FeatureList", "get", "(Ljava/lang/String;)Lcom/example/adjoinery/adjoinery/FeatureValue;"⟩ : MethodName)) (z := (⟨"com/example/adjoinery/adjoinery/FeatureList", "get", "(Ljava/lang/String;)Lcom/example/adjoinery/adjoinery/FeatureValue;"⟩ : MethodName)) hown (mvT hZ (w111 hw)) (mvT hZ (w112 hw)) (notFace_of_selects (args := #[]) (mvT hZ (w114 hw))) (mvT hZ (w114 hw)) (mvT hZ (w113 hw)) (by decide) (backOf (W := 0) (rm_get0 l Z a0 hw [] fl na va kn kv nx h0 n0 (Nat.le_trans Z0 (Nat.le_refl _)) H5 H6 H7 H8 H9 H10 H11) hZ (w115 hw) (w8 hw) (by decide) (by decide)) q2a q2c (g := (mkF m 5 #[rv fv, rv nx, rv vx, rv tr, .unset] [(.ref nx), (.ref fl)])) rfl (by rw [hml]; rfl) (Steps.refl _) (argsL := [(.ref nx)]) (rest := []) (lenOf pd_12 rfl) rfl (by show 2 * 0 + _ ≤ _; exact Nat.le_of_eq rfl) (hb hby d28_5) (fun _ _ => ⟨rfl, e1, (by decide : 0 + 0 ≤ _), (by decide : 0 + 0 ≤ _)⟩)
  dsimp only [Pt.U, Pt.locs, Pt.cells, Pt.slots] at X2 lq2 yq2 zq2 st2 hQ2
  subst lq2 yq2 zq2
  obtain ⟨h2, e2⟩ : ∃ z, T2.heap = z := ⟨_, rfl⟩
  rw [e2] at hQ2
  obtain ⟨rfl, N2q, he2⟩ := hQ2
  have N2 := Fr.app N0 N2q
  rw [he2] at e2
  refine go_tr st2 ?_
  show Go _ _ _ _ (T2.setTop (mkF m 8 #[rv fv, rv nx, rv vx, rv tr, .unset] [.null]))
  refine go_st (fun t k => XS.astore X2.here hx rfl (hb hby d28_8) rfl rfl (l' := #[rv fv, rv nx, rv vx, rv tr, .val .null]) rfl k) ?_
  refine go_st (fun t k => XS.aload X2.here hx rfl (hb hby d28_10) rfl rfl k) ?_
  show Go _ _ _ _ (T2.setTop (mkF m 12 #[rv fv, rv nx, rv vx, rv tr, .val .null] [.null]))
  refine go_st (fun t k => XS.ifnonnullNo X2.here hx rfl (hb hby d28_12) rfl k) ?_
  show Go _ _ _ _ (T2.setTop (mkF m 15 #[rv fv, rv nx, rv vx, rv tr, .val .null] []))
  refine go_st (fun t k => XS.aloadN X2.here hx rfl (hb hby d28_15) rfl rfl k) ?_
  show Go _ _ _ _ (T2.setTop (mkF m 16 #[rv fv, rv nx, rv vx, rv tr, .val .null] [(.ref fv)]))
  obtain ⟨T3, X3, e3, st3⟩ := getF X2 hx hZ hown (host := "") (Or.inl (w31 hw)) Via.refl e2 H3 (g := (mkF m 16 #[rv fv, rv nx, rv vx, rv tr, .val .null] [(.ref fv)])) rfl rfl (hb hby d28_16)
  refine go_st (fun t k => st3 t k) ?_
  refine go_st (fun t k => XS.aloadN X3.here hx rfl (hb hby d28_19) rfl rfl k) ?_
  refine go_st (fun t k => XS.aloadN X3.here hx rfl (hb hby d28_20) rfl rfl k) ?_
  show Go _ _ _ _ (T3.setTop (mkF m 21 #[rv fv, rv nx, rv vx, rv tr, .val .null] [(.ref vx), (.ref nx), (.ref fl)]))
  obtain ⟨cq4, kq4, q4a, q4b, q4c⟩ := isOf hZ e3 H5
  obtain ⟨_, _, ⟨T4, L4, kk4, nn4⟩, -, X4, ⟨Lc4, hQ4, lq4, yq4, zq4⟩, st4⟩ := X3.virtualBack hx (y := (⟨"com/example/adjoinery/adjoinery/FeatureList", "add", "(Ljava/lang/String;Lcom/example/adjoinery/adjoinery/FeatureValue;)V"⟩ : MethodName)) (z := (⟨"com/example/adjoinery/adjoinery/FeatureList", "add", "(Ljava/lang/String;Lcom/example/adjoinery/adjoinery/FeatureValue;)V"⟩ : MethodName)) hown (mvT hZ (w182 hw)) (mvT hZ (w183 hw)) (nf_same (y := (⟨"com/example/adjoinery/adjoinery/FeatureList", "add", "(Ljava/lang/String;Lcom/example/adjoinery/adjoinery/FeatureValue;)V"⟩ : MethodName)) (y' := (⟨"com/example/adjoinery/adjoinery/FeatureList", "get", "(Ljava/lang/String;)Lcom/example/adjoinery/adjoinery/FeatureValue;"⟩ : MethodName)) (a0 := #[]) rfl (mvT hZ (w113 hw)) (notFace_of_selects (args := #[]) (mvT hZ (w114 hw)))) (mvT hZ (w185 hw)) (mvT hZ (w184 hw)) (by decide) (backOf (W := 0) (rm_fladd l Z a0 hw [] fl na va kn kv nx vx h0 n0 (Nat.le_trans Z0 (Nat.le_refl _)) H5 H6 H7 H8 H9 H10 H11 H12 H13 ov_kn ov_kv g_fl g_na g_va ne_na_va) hZ (w186 hw) (w8 hw) (by decide) (by decide)) q4a q4c (g := (mkF m 21 #[rv fv, rv nx, rv vx, rv tr, .val .null] [(.ref vx), (.ref nx), (.ref fl)])) rfl (by rw [hml]; rfl) (Steps.refl _) (argsL := [(.ref nx), (.ref vx)]) (rest := []) (lenOf pd_13 rfl) rfl (by show 2 * 0 + _ ≤ _; exact Nat.le_of_eq rfl) (hb hby d28_21) (fun _ _ => ⟨rfl, e3, (by decide : 0 + 0 ≤ _), (by decide : 0 + 0 ≤ _)⟩)
  dsimp only [Pt.U, Pt.locs, Pt.cells, Pt.slots] at X4 lq4 yq4 zq4 st4 hQ4
  subst lq4 yq4 zq4
  obtain ⟨h4, e4⟩ : ∃ z, T4.heap = z := ⟨_, rfl⟩
  rw [e4] at hQ4
  obtain ⟨rfl, N4q, K4, p4_0, p4_1, p4_2, p4_3, p4_4, p4_5, p4_6⟩ := hQ4
  have N4 := Fr.app N2 N4q
  refine go_tr st4 ?_
  show Go _ _ _ _ (T4.setTop (mkF m 24 #[rv fv, rv nx, rv vx, rv tr, .val .null] []))
  refine go_st (fun t k => XS.aloadN X4.here hx rfl (hb hby d28_24) rfl rfl k) ?_
  refine go_st (fun t k => XS.aloadN X4.here hx rfl (hb hby d28_25) rfl rfl k) ?_
  refine go_st (fun t k => XS.aloadN X4.here hx rfl (hb hby d28_26) rfl rfl k) ?_
  show Go _ _ _ _ (T4.setTop (mkF m 27 #[rv fv, rv nx, rv vx, rv tr, .val .null] [(.ref fv), (.ref fv), (.ref tr)]))
  have nq5 : fv ≠ fl := ne_exa H0 H5 (by decide)
  have nq6 : fv ≠ va := Exa.neArv H0 H11 (w5 hw)
  have nq7 : fv ≠ na := Exa.neArv H0 H10 (w5 hw)
  have f8 : Fld Z h4 fv cFV "features" "Lcom/example/adjoinery/adjoinery/FeatureList;" (.ref fl) := (H3.keep K4 (ninS nq7 (ninS nq6 (ninS nq5 nin0))))
  obtain ⟨T9, X9, e9, st9⟩ := getF X4 hx hZ hown (host := "") (Or.inl (w31 hw)) Via.refl e4 f8 (g := (mkF m 27 #[rv fv, rv nx, rv vx, rv tr, .val .null] [(.ref fv), (.ref fv), (.ref tr)])) rfl rfl (hb hby d28_27)
  refine go_st (fun t k => st9 t k) ?_
  refine go_st (fun t k => XS.dup X9.here hx rfl (hb hby d28_30) rfl rfl k) ?_
  show Go _ _ _ _ (T9.setTop (mkF m 31 #[rv fv, rv nx, rv vx, rv tr, .val .null] [(.ref fl), (.ref fl), (.ref fv), (.ref tr)]))
  obtain ⟨_, _, ⟨T10, L10, kk10, nn10⟩, -, X10, ⟨Lc10, hQ10, lq10, yq10, zq10⟩, st10⟩ := Jvm.LawKit.callS X9 hx (y := (⟨"java/util/Objects", "requireNonNull", "(Ljava/lang/Object;)Ljava/lang/Object;"⟩ : MethodName)) hown (mvT hZ (w188 hw)) (mvT hZ (w189 hw)) (mvT hZ (w78 hw)) (mvT hZ (w190 hw)) (by decide) (backOf (W := 3) (rm_rnn l Z a0 hw [] fl h4 n0 (Nat.le_trans Z0 K4.1) ) hZ (w190 hw) (w78 hw) (by decide) (by decide)) (g := (mkF m 31 #[rv fv, rv nx, rv vx, rv tr, .val .null] [(.ref fl), (.ref fl), (.ref fv), (.ref tr)])) rfl (by rw [hml]; rfl) (argsL := [(.ref fl)]) (rest := [(.ref fl), (.ref fv), (.ref tr)]) (lenOf pd_14 rfl) rfl (by show 2 * 0 + _ ≤ _; exact Nat.le_of_eq rfl) (hb hby d28_31) (fun _ _ => ⟨rfl, e9, (by decide : 0 + 0 ≤ _), (by decide : 0 + 0 ≤ _)⟩)
  dsimp only [Pt.U, Pt.locs, Pt.cells, Pt.slots] at X10 lq10 yq10 zq10 st10 hQ10
  subst lq10 yq10 zq10
  obtain ⟨h10, e10⟩ : ∃ z, T10.heap = z := ⟨_, rfl⟩
  rw [e10] at hQ10
  obtain ⟨rfl, N10q, he10⟩ := hQ10
  have N10 := Fr.app N4 N10q
  rw [he10] at e10
  refine go_st st10 ?_
  show Go _ _ _ _ (T10.setTop (mkF m 34 #[rv fv, rv nx, rv vx, rv tr, .val .null] [(.ref fl), (.ref fl), (.ref fv), (.ref tr)]))
  refine go_st (fun t k => XS.pop X10.here hx rfl (hb hby d28_34) rfl rfl k) ?_
  show Go _ _ _ _ (T10.setTop (mkF m 35 #[rv fv, rv nx, rv vx, rv tr, .val .null] [(.ref fl), (.ref fv), (.ref tr)]))
  obtain ⟨T11, h11, X11, e11, E11, O11, st11⟩ := lamMk X10 hx hZ Bd.named (w191 hw) (D := "com/example/adjoinery/adjoinery/FeatureList") rfl (w194 hw) lam_lays e10 (g := (mkF m 35 #[rv fv, rv nx, rv vx, rv tr, .val .null] [(.ref fl), (.ref fv), (.ref tr)])) rfl (by rw [hml]; rfl) rfl rfl (hb hby d28_35) (by show 2 * 0 + (1 + (1 + (1 + 0))) + 3072 ≤ _; decide) (by decide) (by decide)
  obtain ⟨b11, gq11⟩ : ∃ z, z = h4.size := ⟨_, rfl⟩
  rw [← gq11] at O11 st11
  refine go_st (fun t k => st11 t k) ?_
  show Go _ _ _ _ (T11.setTop (mkF m 40 #[rv fv, rv nx, rv vx, rv tr, .val .null] [(.ref b11), (.ref fv), (.ref tr)]))
  have f13 : Exa Z h11 fv cFV := ((H0.keep K4).ext E11)
  have of12 : Obj Z h11 fv := Ins.of_exa f13 (w233 hw)
  have f14 : Exa Z h11 tr cTR := ((H20.keep K4).ext E11)
  have nq15 : tr ≠ fl := ne_exa H20 H5 (by decide)
  have nq16 : tr ≠ va := Exa.neArv H20 H11 (w125 hw)
  have nq17 : tr ≠ na := Exa.neArv H20 H10 (w125 hw)
  have f18 : Fld Z h11 tr cTR "undos" "Ljava/util/List;" (.ref lu) := ((H21.keep K4 (ninS nq17 (ninS nq16 (ninS nq15 nin0)))).ext E11)
  have f19 : Fld Z h11 tr cTR "changed" "Ljava/util/List;" (.ref lc) := ((H22.keep K4 (ninS nq17 (ninS nq16 (ninS nq15 nin0)))).ext E11)
  have f20 : Exa Z h11 lu cAL := ((H23.keep K4).ext E11)
  have nq21 : lu ≠ fl := ne_exa H23 H5 (by decide)
  have nq22 : lu ≠ va := Exa.neArv H23 H11 (w132 hw)
  have nq23 : lu ≠ na := Exa.neArv H23 H10 (w132 hw)
  have f24 : Fld Z h11 lu cAL "elementData" "[Ljava/lang/Object;" (.ref de) := ((H24.keep K4 (ninS nq23 (ninS nq22 (ninS nq21 nin0)))).ext E11)
  have f25 : Fld Z h11 lu cAL "size" "I" (.int 0) := ((H25.keep K4 (ninS nq23 (ninS nq22 (ninS nq21 nin0)))).ext E11)
  have f26 : Fld Z h11 lu "java/util/AbstractList" "modCount" "I" (.int 0) := ((H26.keep K4 (ninS nq23 (ninS nq22 (ninS nq21 nin0)))).ext E11)
  have f27 : Exa Z h11 lc cAL := ((H27.keep K4).ext E11)
  have nq28 : lc ≠ fl := ne_exa H27 H5 (by decide)
  have nq29 : lc ≠ va := Exa.neArv H27 H11 (w132 hw)
  have nq30 : lc ≠ na := Exa.neArv H27 H10 (w132 hw)
  have f31 : Fld Z h11 lc cAL "elementData" "[Ljava/lang/Object;" (.ref de) := ((H28.keep K4 (ninS nq30 (ninS nq29 (ninS nq28 nin0)))).ext E11)
  have f32 : Fld Z h11 lc cAL "size" "I" (.int 0) := ((H29.keep K4 (ninS nq30 (ninS nq29 (ninS nq28 nin0)))).ext E11)
  have f33 : Fld Z h11 lc "java/util/AbstractList" "modCount" "I" (.int 0) := ((H30.keep K4 (ninS nq30 (ninS nq29 (ninS nq28 nin0)))).ext E11)
  have nq34 : de ≠ fl := Old.ne O0 zl_de g_fl
  have nq35 : de ≠ va := Old.ne O0 zl_de g_va
  have nq36 : de ≠ na := Old.ne O0 zl_de g_na
  have f37 : Arv Z h11 de kd (.object "java/lang/Object") (0 : Int32) [] .null := ((H34.keep K4 (ninS nq36 (ninS nq35 (ninS nq34 nin0)))).ext E11)
  have oe38 : Old Z n0 h4 := (Old.keep O0 K4 (allS g_na (allS g_va (allS g_fl all0))))
  have oe39 : Old Z n0 h11 := (Old.ext oe38 E11)
  have sz40 : h0.size ≤ h11.size := (Nat.le_trans K4.1 E11.1)
  obtain ⟨cq41, kq41, q41a, q41b, q41c⟩ := isOf hZ e11 f14
  obtain ⟨_, _, ⟨T41, L41, kk41, nn41⟩, -, X41, ⟨Lc41, hQ41, lq41, yq41, zq41⟩, st41⟩ := X11.virtualBack hx (y := (⟨"com/example/adjoinery/adjoinery/Trail", "record", "(Lcom/example/adjoinery/adjoinery/FeatureValue;Ljava/lang/Runnable;)V"⟩ : MethodName)) (z := (⟨"com/example/adjoinery/adjoinery/Trail", "record", "(Lcom/example/adjoinery/adjoinery/FeatureValue;Ljava/lang/Runnable;)V"⟩ : MethodName)) hown (mvT hZ (w195 hw)) (mvT hZ (w196 hw)) (notFace_of_selects (args := #[]) (mvT hZ (w198 hw))) (mvT hZ (w198 hw)) (mvT hZ (w197 hw)) (by decide) (backOf (W := 0) (rm_record l Z a0 hw [] tr lu lc de kd fv b11 h11 n0 (Nat.le_trans Z0 sz40) f14 f18 f19 f20 f24 f25 f26 f27 f31 f32 f33 g_lu g_lc ne_lu_lc f37 DES zl_de of12 O11 oe39) hZ (w199 hw) (w126 hw) (by decide) (by decide)) q41a q41c (g := (mkF m 40 #[rv fv, rv nx, rv vx, rv tr, .val .null] [(.ref b11), (.ref fv), (.ref tr)])) rfl (by rw [hml]; rfl) (Steps.refl _) (argsL := [(.ref fv), (.ref b11)]) (rest := []) (lenOf pd_15 rfl) rfl (by show 2 * 0 + _ ≤ _; exact Nat.le_of_eq rfl) (hb hby d28_40) (fun _ _ => ⟨rfl, e11, (by decide : 1 + 2 ≤ _), (by decide : 1 + 20 ≤ _)⟩)
  dsimp only [Pt.U, Pt.locs, Pt.cells, Pt.slots] at X41 lq41 yq41 zq41 st41 hQ41
  subst lq41 yq41 zq41
  obtain ⟨h41, e41⟩ : ∃ z, T41.heap = z := ⟨_, rfl⟩
  rw [e41] at hQ41
  obtain ⟨rfl, N41q, K41⟩ := hQ41
  have N41 := Fr.app N10 N41q
  refine go_tr st41 ?_
  show Go _ _ _ _ (T41.setTop (mkF m 43 #[rv fv, rv nx, rv vx, rv tr, .val .null] []))
  refine go_st (fun t k => XS.aload X41.here hx rfl (hb hby d28_43) rfl rfl k) ?_
  show Go _ _ _ _ (T41.setTop (mkF m 45 #[rv fv, rv nx, rv vx, rv tr, .val .null] [.null]))
  have f42 : Exa Z h41 fl cFL := ((p4_0.ext E11).keep K41)
  have f43 : Fld Z h41 fl cFL "names" "[Ljava/lang/String;" (.ref na) := ((p4_1.ext E11).keep K41 (ninS (Ne.symm nq21) (ninS (Ne.symm nq28) nin0)))
  have f44 : Fld Z h41 fl cFL "values" "[Lcom/example/adjoinery/adjoinery/FeatureValue;" (.ref va) := ((p4_2.ext E11).keep K41 (ninS (Ne.symm nq21) (ninS (Ne.symm nq28) nin0)))
  have f45 : Fld Z h41 fl cFL "positions" "Ljava/util/Map;" .null := ((p4_3.ext E11).keep K41 (ninS (Ne.symm nq21) (ninS (Ne.symm nq28) nin0)))
  have f46 : Fld Z h41 fl cFL "size" "I" (.int 1) := ((p4_4.ext E11).keep K41 (ninS (Ne.symm nq21) (ninS (Ne.symm nq28) nin0)))
  have f47 : Arv Z h41 na kn (.object "java/lang/String") (4 : Int32) [(.ref nx), .null, .null, .null] .null := ((p4_5.ext E11).keep K41 (ninS (Ne.symm nq23) (ninS (Ne.symm nq30) nin0)))
  have f48 : Arv Z h41 va kv (.object "com/example/adjoinery/adjoinery/FeatureValue") (4 : Int32) [(.ref vx), .null, .null, .null] .null := ((p4_6.ext E11).keep K41 (ninS (Ne.symm nq22) (ninS (Ne.symm nq29) nin0)))
  have ke49 : Keep h0 h4 [na, va, fl, lu, lc] := (Keep.trans (Keep.refl h0 [na, va, fl, lu, lc]) K4 (allS (Or.inl (List.mem_of_getElem? (i := 0) rfl)) (allS (Or.inl (List.mem_of_getElem? (i := 1) rfl)) (allS (Or.inl (List.mem_of_getElem? (i := 2) rfl)) all0))))
  have ke50 : Keep h0 h11 [na, va, fl, lu, lc] := (Keep.ext ke49 E11)
  have ke51 : Keep h0 h41 [na, va, fl, lu, lc] := (Keep.trans ke50 K41 (allS (Or.inl (List.mem_of_getElem? (i := 3) rfl)) (allS (Or.inl (List.mem_of_getElem? (i := 4) rfl)) all0)))
  obtain ⟨fs, hr, hrun, hended, hW, hsame⟩ := X41.leave (v := some .null) (fun h => by rw [Bd.returns] at h; cases h)
  refine ⟨_, _, ?_, hrun, hended, _, _, rfl, ?_, ⟨_, rfl⟩, hW, hsame.mono (by decide) (by decide)⟩
  · exact retOut X41 hx Bd.returns rfl (Or.inr (Or.inr (Or.inr (Or.inr ⟨rfl, rfl, rfl⟩)))) (hb hby d28_45) hr
  · show Q_pia _ _ _ _ _ _ _ _ _ _ _ _ _ _ _ _ _ T41.heap _
    rw [e41]
    exact ⟨rfl, N41, ke51, f42, f43, f44, f45, f46, f47, f48⟩
def Q_addf (Z : State) (fv : Addr) (fl : Addr) (na : Addr) (va : Addr) (kn : ClassId) (kv : ClassId) (nx : Addr) (vx : Addr) (tr : Addr) (lu : Addr) (lc : Addr) (de : Addr) (kd : ClassId) (h0 : Heap) (n0 : Nat) (vR : Option Value) (h : Heap) (L : List Loc) : Prop := vR = some (.int 1) ∧ Fr n0 L ∧ Keep h0 h [na, va, fl, lu, lc] ∧ (Exa Z h fl cFL) ∧ (Fld Z h fl cFL "names" "[Ljava/lang/String;" (.ref na)) ∧ (Fld Z h fl cFL "values" "[Lcom/example/adjoinery/adjoinery/FeatureValue;" (.ref va)) ∧ (Fld Z h fl cFL "positions" "Ljava/util/Map;" .null) ∧ (Fld Z h fl cFL "size" "I" (.int 1)) ∧ (Arv Z h na kn (.object "java/lang/String") (4 : Int32) [(.ref nx), .null, .null, .null] .null) ∧ (Arv Z h va kv (.object "com/example/adjoinery/adjoinery/FeatureValue") (4 : Int32) [(.ref vx), .null, .null, .null] .null)
theorem ef_addf (m : MethodId) (x0 : Addr) (x1 : Addr) (x2 : Addr) (x3 : Addr) : entryFrame m #[(.ref x0), (.ref x1), (.ref x2), (.ref x3)] 5 = mkF m 0 #[.val (.ref x0), .val (.ref x1), .val (.ref x2), .val (.ref x3), .unset] [] := by first | (simp [entryFrame, mkF, argsToLocals, Value.category]; done) | rfl
set_option maxRecDepth 65536 in
set_option maxHeartbeats 40000000 in
theorem rm_addf (l : Launch) (Z : State) (a0 : Array Value) (hw : ∀ d ∈ tables_1, d.before a0 Z = true) (ws : List Jvm.Cond) (fv : Addr) (fl : Addr) (na : Addr) (va : Addr) (kn : ClassId) (kv : ClassId) (nx : Addr) (vx : Addr) (tr : Addr) (lu : Addr) (lc : Addr) (de : Addr) (kd : ClassId) (h0 : Heap) (n0 : Nat) (Z0 : n0 ≤ h0.size) (H0 : Exa Z h0 fv cFV) (H1 : Fld Z h0 fv cFV "atom" "Ljava/lang/String;" .null) (H2 : Fld Z h0 fv cFV "alternatives" "Ljava/util/Set;" .null) (H3 : Fld Z h0 fv cFV "features" "Lcom/example/adjoinery/adjoinery/FeatureList;" (.ref fl)) (H4 : Fld Z h0 fv cFV "forward" "Lcom/example/adjoinery/adjoinery/FeatureValue;" .null) (H5 : Exa Z h0 fl cFL) (H6 : Fld Z h0 fl cFL "names" "[Ljava/lang/String;" (.ref na)) (H7 : Fld Z h0 fl cFL "values" "[Lcom/example/adjoinery/adjoinery/FeatureValue;" (.ref va)) (H8 : Fld Z h0 fl cFL "positions" "Ljava/util/Map;" .null) (H9 : Fld Z h0 fl cFL "size" "I" (.int 0)) (H10 : Arv Z h0 na kn (.object "java/lang/String") (4 : Int32) [.null, .null, .null, .null] .null) (H11 : Arv Z h0 va kv (.object "com/example/adjoinery/adjoinery/FeatureValue") (4 : Int32) [.null, .null, .null, .null] .null) (H12 : Exa Z h0 nx cST) (H13 : Exa Z h0 vx cFV) (ov_kn : Ovr Z kn "java/lang/String") (ov_kv : Ovr Z kv "com/example/adjoinery/adjoinery/FeatureValue") (g_fl : n0 ≤ fl) (g_na : n0 ≤ na) (g_va : n0 ≤ va) (ne_na_va : na ≠ va) (H20 : Exa Z h0 tr cTR) (H21 : Fld Z h0 tr cTR "undos" "Ljava/util/List;" (.ref lu)) (H22 : Fld Z h0 tr cTR "changed" "Ljava/util/List;" (.ref lc)) (H23 : Exa Z h0 lu cAL) (H24 : Fld Z h0 lu cAL "elementData" "[Ljava/lang/Object;" (.ref de)) (H25 : Fld Z h0 lu cAL "size" "I" (.int 0)) (H26 : Fld Z h0 lu "java/util/AbstractList" "modCount" "I" (.int 0)) (H27 : Exa Z h0 lc cAL) (H28 : Fld Z h0 lc cAL "elementData" "[Ljava/lang/Object;" (.ref de)) (H29 : Fld Z h0 lc cAL "size" "I" (.int 0)) (H30 : Fld Z h0 lc "java/util/AbstractList" "modCount" "I" (.int 0)) (g_lu : n0 ≤ lu) (g_lc : n0 ≤ lc) (ne_lu_lc : lu ≠ lc) (H34 : Arv Z h0 de kd (.object "java/lang/Object") (0 : Int32) [] .null) (DES : Sta Z Z.heap "java/util/ArrayList" "DEFAULTCAPACITY_EMPTY_ELEMENTDATA" "[Ljava/lang/Object;" (.ref de)) (zl_de : de < Z.heap.size) (O0 : Old Z n0 h0) :
    MetFree l (⟨"com/example/adjoinery/adjoinery/FeatureValue", "addFeature", "(Ljava/lang/String;Lcom/example/adjoinery/adjoinery/FeatureValue;Lcom/example/adjoinery/adjoinery/Trail;)Z"⟩ : MethodName) (head1 (Jvm.Cond.code (⟨"com/example/adjoinery/adjoinery/FeatureValue", "addFeature", "(Ljava/lang/String;Lcom/example/adjoinery/adjoinery/FeatureValue;Lcom/example/adjoinery/adjoinery/Trail;)Z"⟩ : MethodName) prog_22_method_13_code 5 (some .boolean) :: ws) ({ frames := 7, cells := 3, slots := 21, locals := 3091 } : Room)) (fun a U => a = #[(.ref fv), (.ref nx), (.ref vx), (.ref tr)] ∧ Z.Warmed39 U.vm ∧ U.heap = h0) (fun _ _ _ _ _ => True) (fun _ U o U' => ∃ v L, o = .returned v ∧ Q_addf Z fv fl na va kn kv nx vx tr lu lc de kd h0 n0 v U'.heap L ∧ FrameEnd U o U' L ({ frames := 7, cells := 3, slots := 21, locals := 3091 } : Room).cells ({ frames := 7, cells := 3, slots := 21, locals := 3091 } : Room).slots) := by
  refine MetFree.of_bodySF (plainFor_of_name pn_com_example_adjoinery_adjoinery_FeatureValue) hisR ?_
  intro p e s m args below meth c s₁ Bd hml0 hP hK
  obtain ⟨rfl, hZ, hh⟩ := hP
  have hx := Bd.exec
  have hby := Bd.bytes
  have hml : c.maxLocals = 5 := hml0
  have hown : s.vm.findClass "com/example/adjoinery/adjoinery/FeatureValue" = some m.cls := findClass_of_methodNamed Bd.named
  have hnm := (name_of_methodNamed Bd.named Bd.method).1
  have X0 : Stand p l e ({ frames := 7, cells := 3, slots := 21, locals := 3091 } : Room) s m #[(.ref fv), (.ref nx), (.ref vx), (.ref tr)] below meth c s₁ [] 0 0 := Stand.of_body Bd
  have e0 : s₁.heap = h0 := by rw [← hh, Bd.state]; rfl
  have N0 := Fr.nil n0
  refine go_st (fun t k => castTop (ef_addf m fv nx vx tr) k) ?_
  show Go _ _ _ _ (s₁.setTop (mkF m 0 #[rv fv, rv nx, rv vx, rv tr, .unset] []))
  refine go_st (fun t k => XS.aloadN X0.here hx rfl (hb hby d29_0) rfl rfl k) ?_
  show Go _ _ _ _ (s₁.setTop (mkF m 1 #[rv fv, rv nx, rv vx, rv tr, .unset] [(.ref fv)]))
  obtain ⟨cq1, kq1, q1a, q1b, q1c⟩ := isOf hZ e0 H0
  obtain ⟨_, _, ⟨T1, L1, kk1, nn1⟩, -, X1, ⟨Lc1, hQ1, lq1, yq1, zq1⟩, st1⟩ := X0.virtualBack hx (y := (⟨"com/example/adjoinery/adjoinery/FeatureValue", "resolve", "()Lcom/example/adjoinery/adjoinery/FeatureValue;"⟩ : MethodName)) (z := (⟨"com/example/adjoinery/adjoinery/FeatureValue", "resolve", "()Lcom/example/adjoinery/adjoinery/FeatureValue;"⟩ : MethodName)) hown (mvT hZ (w85 hw)) (mvT hZ (w86 hw)) (nf_same (y := (⟨"com/example/adjoinery/adjoinery/FeatureValue", "resolve", "()Lcom/example/adjoinery/adjoinery/FeatureValue;"⟩ : MethodName)) (y' := (⟨"com/example/adjoinery/adjoinery/FeatureValue", "isStructure", "()Z"⟩ : MethodName)) (a0 := #[]) rfl (mvT hZ (w82 hw)) (notFace_of_selects (args := #[]) (mvT hZ (w83 hw)))) (mvT hZ (w88 hw)) (mvT hZ (w87 hw)) (by decide) (backOf (W := 0) (rm_resolve l Z a0 hw [] fv h0 n0 (Nat.le_trans Z0 (Nat.le_refl _)) H0 H4) hZ (w89 hw) (w2 hw) (by decide) (by decide)) q1a q1c (g := (mkF m 1 #[rv fv, rv nx, rv vx, rv tr, .unset] [(.ref fv)])) rfl (by rw [hml]; rfl) (Steps.refl _) (argsL := []) (rest := []) (lenOf pd_9 rfl) rfl (by show 2 * 0 + _ ≤ _; exact Nat.le_of_eq rfl) (hb hby d29_1) (fun _ _ => ⟨rfl, e0, (by decide : 0 + 0 ≤ _), (by decide : 0 + 0 ≤ _)⟩)
  dsimp only [Pt.U, Pt.locs, Pt.cells, Pt.slots] at X1 lq1 yq1 zq1 st1 hQ1
  subst lq1 yq1 zq1
  obtain ⟨h1, e1⟩ : ∃ z, T1.heap = z := ⟨_, rfl⟩
  rw [e1] at hQ1
  obtain ⟨rfl, N1q, he1⟩ := hQ1
  have N1 := Fr.app N0 N1q
  rw [he1] at e1
  refine go_tr st1 ?_
  show Go _ _ _ _ (T1.setTop (mkF m 4 #[rv fv, rv nx, rv vx, rv tr, .unset] [(.ref fv)]))
  refine go_st (fun t k => XS.aloadN X1.here hx rfl (hb hby d29_4) rfl rfl k) ?_
  refine go_st (fun t k => XS.aloadN X1.here hx rfl (hb hby d29_5) rfl rfl k) ?_
  refine go_st (fun t k => XS.aloadN X1.here hx rfl (hb hby d29_6) rfl rfl k) ?_
  show Go _ _ _ _ (T1.setTop (mkF m 7 #[rv fv, rv nx, rv vx, rv tr, .unset] [(.ref tr), (.ref vx), (.ref nx), (.ref fv)]))
  obtain ⟨cq2, q2, q2'⟩ := H0.cell
  obtain ⟨_, _, ⟨T2, L2, kk2, nn2⟩, -, X2, ⟨Lc2, hQ2, lq2, yq2, zq2⟩, st2⟩ := X1.privateBack hx (y := (⟨"com/example/adjoinery/adjoinery/FeatureValue", "putIfAbsent", "(Ljava/lang/String;Lcom/example/adjoinery/adjoinery/FeatureValue;Lcom/example/adjoinery/adjoinery/Trail;)Lcom/example/adjoinery/adjoinery/FeatureValue;"⟩ : MethodName)) hown (mvT hZ (w178 hw)) (mvT hZ (w179 hw)) (mvT hZ (sel_priv (w180 hw) (w179 hw) (nf_same (y := (⟨"com/example/adjoinery/adjoinery/FeatureValue", "putIfAbsent", "(Ljava/lang/String;Lcom/example/adjoinery/adjoinery/FeatureValue;Lcom/example/adjoinery/adjoinery/Trail;)Lcom/example/adjoinery/adjoinery/FeatureValue;"⟩ : MethodName)) (y' := (⟨"com/example/adjoinery/adjoinery/FeatureValue", "isStructure", "()Z"⟩ : MethodName)) rfl (w82 hw) (notFace_of_selects (w83 hw))) (by decide))) (Cond.privateMethod_at (mvP hZ (w180 hw) (args := #[]))) (mvT hZ (w181 hw)) (by decide) (backOf (W := 0) (rm_pia l Z a0 hw [] fv fl na va kn kv nx vx tr lu lc de kd h0 n0 (Nat.le_trans Z0 (Nat.le_refl _)) H0 H1 H2 H3 H4 H5 H6 H7 H8 H9 H10 H11 H12 H13 ov_kn ov_kv g_fl g_na g_va ne_na_va H20 H21 H22 H23 H24 H25 H26 H27 H28 H29 H30 g_lu g_lc ne_lu_lc H34 DES zl_de O0) hZ (w181 hw) (w2 hw) (by decide) (by decide)) (g := (mkF m 7 #[rv fv, rv nx, rv vx, rv tr, .unset] [(.ref tr), (.ref vx), (.ref nx), (.ref fv)])) rfl (by rw [hml]; rfl) (Steps.refl _) (a := fv) (by rw [e1]; exact q2) q2' (argsL := [(.ref nx), (.ref vx), (.ref tr)]) (rest := []) (lenOf pd_16 rfl) rfl (by show 2 * 0 + _ ≤ _; exact Nat.le_of_eq rfl) (hb hby d29_7) (fun _ _ => ⟨rfl, e1, (by decide : 0 + 3 ≤ _), (by decide : 0 + 21 ≤ _)⟩)
  dsimp only [Pt.U, Pt.locs, Pt.cells, Pt.slots] at X2 lq2 yq2 zq2 st2 hQ2
  subst lq2 yq2 zq2
  obtain ⟨h2, e2⟩ : ∃ z, T2.heap = z := ⟨_, rfl⟩
  rw [e2] at hQ2
  obtain ⟨rfl, N2q, K2, p2_0, p2_1, p2_2, p2_3, p2_4, p2_5, p2_6⟩ := hQ2
  have N2 := Fr.app N1 N2q
  refine go_tr st2 ?_
  show Go _ _ _ _ (T2.setTop (mkF m 10 #[rv fv, rv nx, rv vx, rv tr, .unset] [.null]))
  refine go_st (fun t k => XS.astore X2.here hx rfl (hb hby d29_10) rfl rfl (l' := #[rv fv, rv nx, rv vx, rv tr, .val .null]) rfl k) ?_
  refine go_st (fun t k => XS.aload X2.here hx rfl (hb hby d29_12) rfl rfl k) ?_
  show Go _ _ _ _ (T2.setTop (mkF m 14 #[rv fv, rv nx, rv vx, rv tr, .val .null] [.null]))
  refine go_st (fun t k => XS.ifnullYes X2.here hx rfl (pc0 := 14) (pc' := 27) rfl (hb hby d29_14) rfl (by decide) (by decide) k) ?_
  show Go _ _ _ _ (T2.setTop (mkF m 27 #[rv fv, rv nx, rv vx, rv tr, .val .null] []))
  refine go_st (fun t k => XS.iconst X2.here hx rfl (hb hby d29_27) k) ?_
  refine go_st (fun t k => XS.goto X2.here hx rfl (pc0 := 28) (pc' := 32) rfl (hb hby d29_28) (by decide) (by decide) k) ?_
  show Go _ _ _ _ (T2.setTop (mkF m 32 #[rv fv, rv nx, rv vx, rv tr, .val .null] [(.int 1)]))
  have ke3 : Keep h0 h2 [na, va, fl, lu, lc] := (Keep.trans (Keep.refl h0 [na, va, fl, lu, lc]) K2 (allS (Or.inl (List.mem_of_getElem? (i := 0) rfl)) (allS (Or.inl (List.mem_of_getElem? (i := 1) rfl)) (allS (Or.inl (List.mem_of_getElem? (i := 2) rfl)) (allS (Or.inl (List.mem_of_getElem? (i := 3) rfl)) (allS (Or.inl (List.mem_of_getElem? (i := 4) rfl)) all0))))))
  obtain ⟨fs, hr, hrun, hended, hW, hsame⟩ := X2.leave (v := some (.int 1)) (fun h => by rw [Bd.returns] at h; cases h)
  refine ⟨_, _, ?_, hrun, hended, _, _, rfl, ?_, ⟨_, rfl⟩, hW, hsame.mono (by decide) (by decide)⟩
  · exact retN X2 hx (t := .boolean) Bd.returns (by simp) (hb hby d29_32) hr
  · show Q_addf _ _ _ _ _ _ _ _ _ _ _ _ _ _ _ _ _ T2.heap _
    rw [e2]
    exact ⟨rfl, N2, ke3, p2_0, p2_1, p2_2, p2_3, p2_4, p2_5, p2_6⟩
def Q_atomof (Z : State) (sx : Addr) (h0 : Heap) (n0 : Nat) (vR : Option Value) (h : Heap) (L : List Loc) : Prop := ∃ (fv : Addr), vR = some (.ref fv) ∧ Fr n0 L ∧ Keep h0 h [] ∧ n0 ≤ fv ∧ h0.size ≤ fv ∧ (Exa Z h fv cFV) ∧ (Fld Z h fv cFV "atom" "Ljava/lang/String;" (.ref sx)) ∧ (Fld Z h fv cFV "alternatives" "Ljava/util/Set;" .null) ∧ (Fld Z h fv cFV "features" "Lcom/example/adjoinery/adjoinery/FeatureList;" .null) ∧ (Fld Z h fv cFV "forward" "Lcom/example/adjoinery/adjoinery/FeatureValue;" .null)
theorem ef_atomof (m : MethodId) (x0 : Addr) : entryFrame m #[(.ref x0)] 1 = mkF m 0 #[.val (.ref x0)] [] := by first | (simp [entryFrame, mkF, argsToLocals, Value.category]; done) | rfl
set_option maxRecDepth 65536 in
set_option maxHeartbeats 40000000 in
theorem rm_atomof (l : Launch) (Z : State) (a0 : Array Value) (hw : ∀ d ∈ tables_1, d.before a0 Z = true) (ws : List Jvm.Cond) (sx : Addr) (h0 : Heap) (n0 : Nat) (Z0 : n0 ≤ h0.size)  :
    MetFree l (⟨"com/example/adjoinery/adjoinery/FeatureValue", "atom", "(Ljava/lang/String;)Lcom/example/adjoinery/adjoinery/FeatureValue;"⟩ : MethodName) (head1 (Jvm.Cond.code (⟨"com/example/adjoinery/adjoinery/FeatureValue", "atom", "(Ljava/lang/String;)Lcom/example/adjoinery/adjoinery/FeatureValue;"⟩ : MethodName) prog_22_method_3_code 1 (some (.object "com/example/adjoinery/adjoinery/FeatureValue")) :: ws) ({ frames := 2, cells := 3, slots := 25, locals := 28 } : Room)) (fun a U => a = #[(.ref sx)] ∧ Z.Warmed39 U.vm ∧ U.heap = h0 ∧ CHv Z consts_1 U.vm h0) (fun _ _ _ _ _ => True) (fun _ U o U' => ∃ v L, o = .returned v ∧ Q_atomof Z sx h0 n0 v U'.heap L ∧ CHr Z consts_1 U.vm U.heap U'.vm U'.heap ∧ ReturnedEndW U o U' L ({ frames := 2, cells := 3, slots := 25, locals := 28 } : Room).cells ({ frames := 2, cells := 3, slots := 25, locals := 28 } : Room).slots) := by
  refine MetFree.of_bodySF (plainFor_of_name pn_com_example_adjoinery_adjoinery_FeatureValue) hisR ?_
  intro p e s m args below meth c s₁ Bd hml0 hP hK
  obtain ⟨rfl, hZs, hh, HC0⟩ := hP
  have hx := Bd.exec
  have hby := Bd.bytes
  have hml : c.maxLocals = 1 := hml0
  have hZ : Z.Warmed39 (s.setVm s.vm).vm := hZs
  have hown : (s.setVm s.vm).vm.findClass "com/example/adjoinery/adjoinery/FeatureValue" = some m.cls := findClass_of_methodNamed Bd.named
  have hnm := (name_of_methodNamed Bd.named Bd.method).1
  have X0 : Stand p l e ({ frames := 2, cells := 3, slots := 25, locals := 28 } : Room) (s.setVm s.vm) m #[(.ref sx)] below meth c s₁ [] 0 0 := Stand.of_body Bd
  have e0 : s₁.heap = h0 := by rw [← hh, Bd.state]; rfl
  have N0 := Fr.nil n0
  have hS0 : s.Since s.vm s.heap.size := (State.WarmedH.refl s).since _
  have hk0 : s.heap.size ≤ h0.size := Nat.le_of_eq (congrArg Array.size hh)
  have C0 : CHr Z consts_1 s.vm h0 s.vm h0 := CHr.refl HC0
  refine go_st (fun t k => castTop (ef_atomof m sx) k) ?_
  show Go _ _ _ _ (s₁.setTop (mkF m 0 #[rv sx] []))
  refine go_st (fun t k => XS.aloadN X0.here hx rfl (hb hby d30_0) rfl rfl k) ?_
  show Go _ _ _ _ (s₁.setTop (mkF m 1 #[rv sx] [(.ref sx)]))
  obtain ⟨li1, T1, h1, kk1, t1, kb1, X1, e1, E1, hS1, hk1, hZ1, hown1, Es1, Cs1, Vs1, As1, lla1, llt1, hC1, -, hne1, st1⟩ := ldcCH (vm0 := s.vm) X0 hx hZ hown (w75 hw) (str_atoms hw) e0 hS0 (Nat.le_trans hk0 (Nat.le_refl _)) (hEL hw) (List.mem_of_getElem? (i := 0) rfl) C0.1 (vs := [.int (97 : Int32), .int (116 : Int32), .int (111 : Int32), .int (109 : Int32)]) (z := (4 : Int32)) (by decide) (by decide) (by decide) (g := (mkF m 1 #[rv sx] [(.ref sx)])) rfl (hb hby d30_1) (n := 16) (by decide) (by decide) (by decide) (by decide)
  have C2 : CHr Z consts_1 s.vm h0 T1.vm h1 := CHr.trans C0 hC1
  refine go_st (fun t k => st1 t k) ?_
  show Go _ _ _ _ (T1.setTop (mkF m 3 #[rv sx] [(.ref li1), (.ref sx)]))
  obtain ⟨_, _, ⟨T3, L3, kk3, nn3⟩, -, X3, ⟨Lc3, hQ3, lq3, yq3, zq3⟩, st3⟩ := Jvm.LawKit.callS X1 hx (y := (⟨"java/util/Objects", "requireNonNull", "(Ljava/lang/Object;Ljava/lang/String;)Ljava/lang/Object;"⟩ : MethodName)) hown1 (mvT hZ1 (w76 hw)) (mvT hZ1 (w77 hw)) (mvT hZ1 (w78 hw)) (mvT hZ1 (w79 hw)) (by decide) (backOf (W := 0) (rm_rnn2 l Z a0 hw [] sx li1 h1 n0 (Nat.le_trans Z0 E1.1) ) hZ1 (w79 hw) (w78 hw) (by decide) (by decide)) (g := (mkF m 3 #[rv sx] [(.ref li1), (.ref sx)])) rfl (by rw [hml]; rfl) (argsL := [(.ref sx), (.ref li1)]) (rest := []) (lenOf pd_17 rfl) rfl (by show 2 * 0 + _ ≤ _; exact Nat.le_of_eq rfl) (hb hby d30_3) (fun _ _ => ⟨rfl, e1, (by decide : 2 + 0 ≤ _), (by decide : 20 + 0 ≤ _)⟩)
  dsimp only [Pt.U, Pt.locs, Pt.cells, Pt.slots] at X3 lq3 yq3 zq3 st3 hQ3
  subst lq3 yq3 zq3
  obtain ⟨h3, e3⟩ : ∃ z, T3.heap = z := ⟨_, rfl⟩
  rw [e3] at hQ3
  obtain ⟨rfl, N3q, he3⟩ := hQ3
  have N3 := Fr.app N0 N3q
  rw [he3] at e3
  refine go_st st3 ?_
  show Go _ _ _ _ (T3.setTop (mkF m 6 #[rv sx] [(.ref sx)]))
  refine go_st (fun t k => XS.pop X3.here hx rfl (hb hby d30_6) rfl rfl k) ?_
  show Go _ _ _ _ (T3.setTop (mkF m 7 #[rv sx] []))
  obtain ⟨T4, h4, X4, e4, E4, A4, D4, -, st4⟩ := newO X3 hx hZ1 hown1 (w4 hw) (w5 hw) (w2 hw) e3 (g := (mkF m 7 #[rv sx] [])) rfl (hb hby d30_7) (by decide) (by decide)
  obtain ⟨b4, gq4⟩ : ∃ z, z = h1.size := ⟨_, rfl⟩
  rw [← gq4] at A4 D4 st4
  have C5 : CHr Z consts_1 s.vm h0 T1.vm h4 := CHr.trans C2 (CHr.ext E4 C2.1)
  have f6 : Fld Z h4 b4 cFV "atom" "Ljava/lang/String;" .null := D4 (Or.inr (w28 hw)) (ty := (.object "java/lang/String")) (by decide)
  have f7 : Fld Z h4 b4 cFV "alternatives" "Ljava/util/Set;" .null := D4 (Or.inr (w30 hw)) (ty := (.object "java/util/Set")) (by decide)
  have f8 : Fld Z h4 b4 cFV "features" "Lcom/example/adjoinery/adjoinery/FeatureList;" .null := D4 (Or.inr (w32 hw)) (ty := (.object "com/example/adjoinery/adjoinery/FeatureList")) (by decide)
  have f9 : Fld Z h4 b4 cFV "forward" "Lcom/example/adjoinery/adjoinery/FeatureValue;" .null := D4 (Or.inl (w91 hw)) (ty := (.object "com/example/adjoinery/adjoinery/FeatureValue")) (by decide)
  refine go_st (fun t k => st4 t k) ?_
  refine go_st (fun t k => XS.dup X4.here hx rfl (hb hby d30_10) rfl rfl k) ?_
  refine go_st (fun t k => XS.aloadN X4.here hx rfl (hb hby d30_11) rfl rfl k) ?_
  refine go_st (fun t k => XS.aconstNull X4.here hx rfl (hb hby d30_12) k) ?_
  refine go_st (fun t k => XS.aconstNull X4.here hx rfl (hb hby d30_13) k) ?_
  show Go _ _ _ _ (T4.setTop (mkF m 14 #[rv sx] [.null, .null, (.ref sx), (.ref b4), (.ref b4)]))
  have g_b4 : n0 ≤ b4 := Nat.le_trans (Nat.le_trans Z0 E1.1) (Nat.le_of_eq gq4.symm)
  have sz10 : h0.size ≤ h4.size := (Nat.le_trans E1.1 E4.1)
  obtain ⟨_, _, ⟨T11, L11, kk11, nn11⟩, -, X11, ⟨Lc11, hQ11, lq11, yq11, zq11⟩, st11⟩ := X4.specialBack hx (y := (⟨"com/example/adjoinery/adjoinery/FeatureValue", "<init>", "(Ljava/lang/String;Ljava/util/Set;Lcom/example/adjoinery/adjoinery/FeatureList;)V"⟩ : MethodName)) rfl hown1 (mvT hZ1 (w23 hw)) (mvT hZ1 (w24 hw)) (mvT hZ1 (w25 hw)) (by decide) (backOf (W := 1) (rm_fvinit2 l Z a0 hw [] b4 sx h4 n0 (Nat.le_trans Z0 sz10) A4 f6 f7 f8 f9 g_b4) hZ1 (w25 hw) (w2 hw) (by decide) (by decide)) (g := (mkF m 14 #[rv sx] [.null, .null, (.ref sx), (.ref b4), (.ref b4)])) rfl (by rw [hml]; rfl) (Steps.refl _) (a := b4) (argsL := [(.ref sx), .null, .null]) (rest := [(.ref b4)]) (lenOf pd_8 rfl) rfl (by show 2 * 0 + _ ≤ _; exact Nat.le_of_eq rfl) (hb hby d30_14) (fun _ _ => ⟨rfl, e4, (by decide : 3 + 0 ≤ _), (by decide : 25 + 0 ≤ _)⟩)
  dsimp only [Pt.U, Pt.locs, Pt.cells, Pt.slots] at X11 lq11 yq11 zq11 st11 hQ11
  subst lq11 yq11 zq11
  obtain ⟨h11, e11⟩ : ∃ z, T11.heap = z := ⟨_, rfl⟩
  rw [e11] at hQ11
  obtain ⟨rfl, N11q, K11, p11_0, p11_1, p11_2, p11_3, p11_4⟩ := hQ11
  have N11 := Fr.app N3 N11q
  have C12 : CHr Z consts_1 s.vm h0 T1.vm h11 := CHr.trans C5 (CHr.keep K11 (sfS (Safe.exa hZ1.alike A4 (by decide) (by decide)) sf0) C5.1)
  refine go_tr st11 ?_
  show Go _ _ _ _ (T11.setTop (mkF m 17 #[rv sx] [(.ref b4)]))
  have ke13 : Keep h0 h1 [] := (Keep.ext (Keep.refl h0 []) E1)
  have ke14 : Keep h0 h4 [] := (Keep.ext ke13 E4)
  have ke15 : Keep h0 h11 [] := (Keep.trans ke14 K11 (allS (Or.inr (Nat.le_trans E1.1 (Nat.le_of_eq gq4.symm))) all0))
  have sz16 : h1.size ≤ h11.size := (Nat.le_trans E4.1 K11.1)
  obtain ⟨fs, hr, hrun, hended, hR⟩ := X11.leaveW hS1 (by rw [e11]; exact (Nat.le_trans hk1 sz16)) (v := some (.ref b4)) (fun h => by rw [Bd.returns] at h; cases h)
  refine ⟨_, _, ?_, hrun, hended, _, _, rfl, ?_, ?_, hR.1, hR.2.1, hR.2.2.1, hR.2.2.2.mono (by decide) (by decide)⟩
  · exact retOut X11 hx Bd.returns rfl (Or.inr (Or.inr (Or.inr (Or.inr ⟨rfl, rfl, rfl⟩)))) (hb hby d30_17) hr
  · show Q_atomof _ _ _ _ _ T11.heap _
    rw [e11]
    exact ⟨b4, rfl, N11, ke15, g_b4, (Nat.le_trans E1.1 (Nat.le_of_eq gq4.symm)), p11_0, p11_1, p11_2, p11_3, p11_4⟩
  · show CHr Z consts_1 s.vm s.heap T11.vm T11.heap
    rw [hh, e11]
    exact CHr.trans C12 (CHv.at X11 hZ1 (hEL hw) C12.1)
def Q_name (Z : State) (p0 : Int32) (p1 : Int32) (p2 : Int32) (p3 : Int32) (G1 : Int32) (h0 : Heap) (n0 : Nat) (vR : Option Value) (h : Heap) (L : List Loc) : Prop := ∃ (a : Addr), vR = some (.ref a) ∧ Fr n0 L ∧ Keep h0 h [] ∧ n0 ≤ a ∧ h0.size ≤ a ∧ (Exa Z h a cST)
theorem ef_name (m : MethodId) (x0 : Int32) (x1 : Int32) (x2 : Int32) (x3 : Int32) : entryFrame m #[(.int x0), (.int x1), (.int x2), (.int x3)] 8 = mkF m 0 #[.val (.int x0), .val (.int x1), .val (.int x2), .val (.int x3), .unset, .unset, .unset, .unset] [] := by first | (simp [entryFrame, mkF, argsToLocals, Value.category]; done) | rfl
set_option maxRecDepth 65536 in
set_option maxHeartbeats 40000000 in
theorem rm_name (l : Launch) (Z : State) (a0 : Array Value) (hw : ∀ d ∈ tables_1, d.before a0 Z = true) (ws : List Jvm.Cond) (p0 : Int32) (p1 : Int32) (p2 : Int32) (p3 : Int32) (G1 : Int32) (h0 : Heap) (n0 : Nat) (Z0 : n0 ≤ h0.size) (CS : Sta Z Z.heap "java/lang/String" "COMPACT_STRINGS" "Z" (.int G1)) (CSn : ¬ (G1 = (0 : Int32))) (O0 : Old Z n0 h0) :
    MetFree l (⟨"com/example/adjoinery/adjoinery/FeatureValueStructurePinLaw", "name", "(IIII)Ljava/lang/String;"⟩ : MethodName) (head1 (Jvm.Cond.code (⟨"com/example/adjoinery/adjoinery/FeatureValueStructurePinLaw", "name", "(IIII)Ljava/lang/String;"⟩ : MethodName) method_2_code 8 (some (.object "java/lang/String")) :: ws) ({ frames := 4, cells := 6, slots := 12, locals := 66 } : Room)) (fun a U => a = #[(.int p0), (.int p1), (.int p2), (.int p3)] ∧ Z.Warmed39 U.vm ∧ U.heap = h0 ∧ CHv Z consts_1 U.vm h0) (fun _ _ _ _ _ => True) (fun _ U o U' => ∃ v L, o = .returned v ∧ Q_name Z p0 p1 p2 p3 G1 h0 n0 v U'.heap L ∧ CHr Z consts_1 U.vm U.heap U'.vm U'.heap ∧ ReturnedEndW U o U' L ({ frames := 4, cells := 6, slots := 12, locals := 66 } : Room).cells ({ frames := 4, cells := 6, slots := 12, locals := 66 } : Room).slots) := by
  refine MetFree.of_bodySF (plainFor_of_name pn_com_example_adjoinery_adjoinery_FeatureValueStructurePinLaw) hisR ?_
  intro p e s m args below meth c s₁ Bd hml0 hP hK
  obtain ⟨rfl, hZs, hh, HC0⟩ := hP
  have hx := Bd.exec
  have hby := Bd.bytes
  have hml : c.maxLocals = 8 := hml0
  have hZ : Z.Warmed39 (s.setVm s.vm).vm := hZs
  have hown : (s.setVm s.vm).vm.findClass "com/example/adjoinery/adjoinery/FeatureValueStructurePinLaw" = some m.cls := findClass_of_methodNamed Bd.named
  have hnm := (name_of_methodNamed Bd.named Bd.method).1
  have X0 : Stand p l e ({ frames := 4, cells := 6, slots := 12, locals := 66 } : Room) (s.setVm s.vm) m #[(.int p0), (.int p1), (.int p2), (.int p3)] below meth c s₁ [] 0 0 := Stand.of_body Bd
  have e0 : s₁.heap = h0 := by rw [← hh, Bd.state]; rfl
  have N0 := Fr.nil n0
  have hS0 : s.Since s.vm s.heap.size := (State.WarmedH.refl s).since _
  have hk0 : s.heap.size ≤ h0.size := Nat.le_of_eq (congrArg Array.size hh)
  have C0 : CHr Z consts_1 s.vm h0 s.vm h0 := CHr.refl HC0
  refine go_st (fun t k => castTop (ef_name m p0 p1 p2 p3) k) ?_
  show Go _ _ _ _ (s₁.setTop (mkF m 0 #[iv p0, iv p1, iv p2, iv p3, .unset, .unset, .unset, .unset] []))
  refine go_st (fun t k => XS.iloadN X0.here hx rfl (hb hby d31_0) rfl k) ?_
  refine go_st (fun t k => XS.iconst X0.here hx rfl (hb hby d31_1) k) ?_
  refine go_st (fun t k => XS.iand X0.here hx rfl (hb hby d31_2) rfl k) ?_
  refine go_st (fun t k => XS.istore X0.here hx rfl (hb hby d31_3) rfl (l' := #[iv p0, iv p1, iv p2, iv p3, iv (p0 &&& (3 : Int32)), .unset, .unset, .unset]) rfl k) ?_
  refine go_st (fun t k => XS.iloadN X0.here hx rfl (hb hby d31_5) rfl k) ?_
  refine go_st (fun t k => XS.sipush X0.here hx rfl (hb hby d31_6) k) ?_
  refine go_st (fun t k => XS.iand X0.here hx rfl (hb hby d31_9) rfl k) ?_
  refine go_st (fun t k => XS.i2c X0.here hx rfl (hb hby d31_10) rfl k) ?_
  refine go_st (fun t k => XS.istore X0.here hx rfl (hb hby d31_11) rfl (l' := #[iv p0, iv p1, iv p2, iv p3, iv (p0 &&& (3 : Int32)), iv (((p1 &&& (255 : Int32))).toUInt32.toUInt16.toUInt32.toInt32), .unset, .unset]) rfl k) ?_
  refine go_st (fun t k => XS.iloadN X0.here hx rfl (hb hby d31_13) rfl k) ?_
  refine go_st (fun t k => XS.sipush X0.here hx rfl (hb hby d31_14) k) ?_
  refine go_st (fun t k => XS.iand X0.here hx rfl (hb hby d31_17) rfl k) ?_
  refine go_st (fun t k => XS.i2c X0.here hx rfl (hb hby d31_18) rfl k) ?_
  refine go_st (fun t k => XS.istore X0.here hx rfl (hb hby d31_19) rfl (l' := #[iv p0, iv p1, iv p2, iv p3, iv (p0 &&& (3 : Int32)), iv (((p1 &&& (255 : Int32))).toUInt32.toUInt16.toUInt32.toInt32), iv (((p2 &&& (255 : Int32))).toUInt32.toUInt16.toUInt32.toInt32), .unset]) rfl k) ?_
  refine go_st (fun t k => XS.iloadN X0.here hx rfl (hb hby d31_21) rfl k) ?_
  refine go_st (fun t k => XS.sipush X0.here hx rfl (hb hby d31_22) k) ?_
  refine go_st (fun t k => XS.iand X0.here hx rfl (hb hby d31_25) rfl k) ?_
  refine go_st (fun t k => XS.i2c X0.here hx rfl (hb hby d31_26) rfl k) ?_
  refine go_st (fun t k => XS.istore X0.here hx rfl (hb hby d31_27) rfl (l' := #[iv p0, iv p1, iv p2, iv p3, iv (p0 &&& (3 : Int32)), iv (((p1 &&& (255 : Int32))).toUInt32.toUInt16.toUInt32.toInt32), iv (((p2 &&& (255 : Int32))).toUInt32.toUInt16.toUInt32.toInt32), iv (((p3 &&& (255 : Int32))).toUInt32.toUInt16.toUInt32.toInt32)]) rfl k) ?_
  refine go_st (fun t k => XS.iload X0.here hx rfl (hb hby d31_29) rfl k) ?_
  show Go _ _ _ _ (s₁.setTop (mkF m 31 #[iv p0, iv p1, iv p2, iv p3, iv (p0 &&& (3 : Int32)), iv (((p1 &&& (255 : Int32))).toUInt32.toUInt16.toUInt32.toInt32), iv (((p2 &&& (255 : Int32))).toUInt32.toUInt16.toUInt32.toInt32), iv (((p3 &&& (255 : Int32))).toUInt32.toUInt16.toUInt32.toInt32)] [(.int (p0 &&& (3 : Int32)))]))
  by_cases hc1 : (p0 &&& (3 : Int32)) = (0 : Int32)
  · skip
    refine go_st (fun t k => XS.ifNo X0.here hx rfl (hb hby d31_31) rfl ((if0 _ _).trans (teq (hc1 : (p0 &&& (3 : Int32)) = (0 : Int32))).2) k) ?_
    show Go _ _ _ _ (s₁.setTop (mkF m 34 #[iv p0, iv p1, iv p2, iv p3, iv (p0 &&& (3 : Int32)), iv (((p1 &&& (255 : Int32))).toUInt32.toUInt16.toUInt32.toInt32), iv (((p2 &&& (255 : Int32))).toUInt32.toUInt16.toUInt32.toInt32), iv (((p3 &&& (255 : Int32))).toUInt32.toUInt16.toUInt32.toInt32)] []))
    obtain ⟨T2, h2, X2, e2, E2, A2, D2, -, st2⟩ := newO X0 hx hZ hown (w37 hw) (w38 hw) (w39 hw) e0 (g := (mkF m 34 #[iv p0, iv p1, iv p2, iv p3, iv (p0 &&& (3 : Int32)), iv (((p1 &&& (255 : Int32))).toUInt32.toUInt16.toUInt32.toInt32), iv (((p2 &&& (255 : Int32))).toUInt32.toUInt16.toUInt32.toInt32), iv (((p3 &&& (255 : Int32))).toUInt32.toUInt16.toUInt32.toInt32)] [])) rfl (hb hby d31_34) (by decide) (by decide)
    obtain ⟨b2, gq2⟩ : ∃ z, z = h0.size := ⟨_, rfl⟩
    rw [← gq2] at A2 D2 st2
    have sn2 : Safe Z consts_1 s.vm h0 b2 := Safe.new (Nat.le_of_eq gq2.symm)
    have C3 : CHr Z consts_1 s.vm h0 s.vm h2 := CHr.trans C0 (CHr.ext E2 C0.1)
    have sf4 : Safe Z consts_1 s.vm h2 b2 := Safe.ext E2 C0.1 sn2
    have f5 : Fld Z h2 b2 cST "value" "[B" .null := D2 (Or.inr (w51 hw)) (ty := (.array .byte)) (by decide)
    have f6 : Fld Z h2 b2 cST "coder" "B" (.int 0) := D2 (Or.inr (w52 hw)) (ty := .byte) (by decide)
    refine go_st (fun t k => st2 t k) ?_
    refine go_st (fun t k => XS.dup X2.here hx rfl (hb hby d31_37) rfl rfl k) ?_
    refine go_st (fun t k => XS.iconst X2.here hx rfl (hb hby d31_38) k) ?_
    show Go _ _ _ _ (T2.setTop (mkF m 39 #[iv p0, iv p1, iv p2, iv p3, iv (p0 &&& (3 : Int32)), iv (((p1 &&& (255 : Int32))).toUInt32.toUInt16.toUInt32.toInt32), iv (((p2 &&& (255 : Int32))).toUInt32.toUInt16.toUInt32.toInt32), iv (((p3 &&& (255 : Int32))).toUInt32.toUInt16.toUInt32.toInt32)] [(.int 0), (.ref b2), (.ref b2)]))
    obtain ⟨T7, h7, kc7, X7, e7, E7, A7, st7⟩ := newP X2 hx hZ (aty := .char) (w40 hw) e2 (g := (mkF m 39 #[iv p0, iv p1, iv p2, iv p3, iv (p0 &&& (3 : Int32)), iv (((p1 &&& (255 : Int32))).toUInt32.toUInt16.toUInt32.toInt32), iv (((p2 &&& (255 : Int32))).toUInt32.toUInt16.toUInt32.toInt32), iv (((p3 &&& (255 : Int32))).toUInt32.toUInt16.toUInt32.toInt32)] [(.int 0), (.ref b2), (.ref b2)])) rfl (hb hby d31_39) rfl (by decide) (cap := 0) (by decide) (by decide) (by decide) (by decide)
    obtain ⟨b7, gq7⟩ : ∃ z, z = h2.size := ⟨_, rfl⟩
    rw [← gq7] at A7 st7
    have C8 : CHr Z consts_1 s.vm h0 s.vm h7 := CHr.trans C3 (CHr.ext E7 C3.1)
    have sf9 : Safe Z consts_1 s.vm h7 b2 := (Safe.ext E7 C3.1 sf4)
    have f10 : Arv Z h7 b7 kc7 .char (0 : Int32) [] (.int 0) := (Arv.new A7 (by decide)).pad (pad_rep [] (.int 0) 0)
    refine go_st (fun t k => st7 t k) ?_
    show Go _ _ _ _ (T7.setTop (mkF m 41 #[iv p0, iv p1, iv p2, iv p3, iv (p0 &&& (3 : Int32)), iv (((p1 &&& (255 : Int32))).toUInt32.toUInt16.toUInt32.toInt32), iv (((p2 &&& (255 : Int32))).toUInt32.toUInt16.toUInt32.toInt32), iv (((p3 &&& (255 : Int32))).toUInt32.toUInt16.toUInt32.toInt32)] [(.ref b7), (.ref b2), (.ref b2)]))
    have f11 : Exa Z h7 b2 cST := (A2.ext E7)
    have f12 : Fld Z h7 b2 cST "value" "[B" .null := (f5.ext E7)
    have f13 : Fld Z h7 b2 cST "coder" "B" (.int 0) := (f6.ext E7)
    have g_b2 : n0 ≤ b2 := Nat.le_trans (Nat.le_trans Z0 (Nat.le_refl _)) (Nat.le_of_eq gq2.symm)
    have nq14 : b2 ≠ b7 := Nat.ne_of_lt (Nat.lt_of_lt_of_le (Nat.lt_of_lt_of_le A2.lt (Nat.le_refl _)) (Nat.le_of_eq gq7.symm))
    have sz15 : h0.size ≤ h7.size := (Nat.le_trans E2.1 E7.1)
    obtain ⟨_, _, ⟨T16, L16, kk16, nn16⟩, -, X16, hs216, hg16, ⟨Lc16, hQ16, lq16, yq16, zq16, hC16⟩, st16⟩ := X7.specialBackS hx (y := (⟨"java/lang/String", "<init>", "([C)V"⟩ : MethodName)) rfl hown (mvT hZ (w41 hw)) (mvT hZ (w42 hw)) (mvT hZ (w43 hw)) (by decide) (backOfSH (vm0 := s.vm) (W := 1) (rm_strE1 l Z a0 hw [] b2 b7 kc7 h7 n0 (Nat.le_trans Z0 sz15) f11 f12 f13 f10 g_b2 nq14) hZ (w43 hw) (w39 hw) (by decide) (by decide) (hEL hw) C8.1) (g := (mkF m 41 #[iv p0, iv p1, iv p2, iv p3, iv (p0 &&& (3 : Int32)), iv (((p1 &&& (255 : Int32))).toUInt32.toUInt16.toUInt32.toInt32), iv (((p2 &&& (255 : Int32))).toUInt32.toUInt16.toUInt32.toInt32), iv (((p3 &&& (255 : Int32))).toUInt32.toUInt16.toUInt32.toInt32)] [(.ref b7), (.ref b2), (.ref b2)])) rfl (by rw [hml]; rfl) (Steps.refl _) (a := b2) (argsL := [(.ref b7)]) (rest := [(.ref b2)]) (lenOf pd_18 rfl) rfl (by show 2 * 0 + _ ≤ _; exact Nat.le_of_eq rfl) (hb hby d31_41) (fun _ _ => ⟨rfl, e7, (by decide : 2 + 4 ≤ _), (by decide : 4 + 8 ≤ _)⟩)
    dsimp only [Pt.U, Pt.locs, Pt.cells, Pt.slots] at X16 hs216 hg16 lq16 yq16 zq16 st16 hQ16 hC16
    subst lq16 yq16 zq16
    rw [e7] at hg16
    obtain ⟨X16, hS16, hZ16, hown16⟩ := rebS (vm0 := s.vm) hS0 (Nat.le_trans hk0 sz15) X16 hs216 hg16 hZ hown
    obtain ⟨h16, e16⟩ : ∃ z, T16.heap = z := ⟨_, rfl⟩
    rw [e16] at hQ16 hg16 hC16 hS16
    obtain ⟨t_16, kb_16, rfl, N16q, K16, p16_0, p16_1, p16_2, p16_3⟩ := hQ16
    have N16 := Fr.app N0 N16q
    have C17 : CHr Z consts_1 s.vm h0 T16.vm h16 := CHr.trans C8 hC16
    have sf18 : Safe Z consts_1 T16.vm h16 b2 := (CHr.safe hC16 f11.lt sf9)
    refine go_tr st16 ?_
    show Go _ _ _ _ (T16.setTop (mkF m 44 #[iv p0, iv p1, iv p2, iv p3, iv (p0 &&& (3 : Int32)), iv (((p1 &&& (255 : Int32))).toUInt32.toUInt16.toUInt32.toInt32), iv (((p2 &&& (255 : Int32))).toUInt32.toUInt16.toUInt32.toInt32), iv (((p3 &&& (255 : Int32))).toUInt32.toUInt16.toUInt32.toInt32)] [(.ref b2)]))
    have ke19 : Keep h0 h2 [] := (Keep.ext (Keep.refl h0 []) E2)
    have ke20 : Keep h0 h7 [] := (Keep.ext ke19 E7)
    have ke21 : Keep h0 h16 [] := (Keep.trans ke20 K16 (allS (Or.inr (Nat.le_of_eq gq2.symm)) all0))
    obtain ⟨fs, hr, hrun, hended, hR⟩ := X16.leaveW hS16 (by rw [e16]; exact (Nat.le_trans (Nat.le_refl _) (Nat.le_refl _))) (v := some (.ref b2)) (fun h => by rw [Bd.returns] at h; cases h)
    refine ⟨_, _, ?_, hrun, hended, _, _, rfl, ?_, ?_, hR.1, hR.2.1, hR.2.2.1, hR.2.2.2.mono (by decide) (by decide)⟩
    · exact retOut X16 hx Bd.returns rfl (Or.inr (Or.inr (Or.inr (Or.inr ⟨rfl, rfl, rfl⟩)))) (hb hby d31_44) hr
    · show Q_name _ _ _ _ _ _ _ _ _ T16.heap _
      rw [e16]
      exact ⟨b2, rfl, N16, ke21, g_b2, (Nat.le_of_eq gq2.symm), p16_0⟩
    · show CHr Z consts_1 s.vm s.heap T16.vm T16.heap
      rw [hh, e16]
      exact CHr.trans C17 (CHv.at X16 hZ16 (hEL hw) C17.1)
  · skip
    refine go_st (fun t k => XS.ifYes X0.here hx rfl (pc0 := 31) (pc' := 45) rfl (hb hby d31_31) rfl ((if0 _ _).trans (feq (hc1 : ¬ ((p0 &&& (3 : Int32)) = (0 : Int32)))).2) (by decide) (by decide) k) ?_
    show Go _ _ _ _ (s₁.setTop (mkF m 45 #[iv p0, iv p1, iv p2, iv p3, iv (p0 &&& (3 : Int32)), iv (((p1 &&& (255 : Int32))).toUInt32.toUInt16.toUInt32.toInt32), iv (((p2 &&& (255 : Int32))).toUInt32.toUInt16.toUInt32.toInt32), iv (((p3 &&& (255 : Int32))).toUInt32.toUInt16.toUInt32.toInt32)] []))
    refine go_st (fun t k => XS.iload X0.here hx rfl (hb hby d31_45) rfl k) ?_
    refine go_st (fun t k => XS.iconst X0.here hx rfl (hb hby d31_47) k) ?_
    show Go _ _ _ _ (s₁.setTop (mkF m 48 #[iv p0, iv p1, iv p2, iv p3, iv (p0 &&& (3 : Int32)), iv (((p1 &&& (255 : Int32))).toUInt32.toUInt16.toUInt32.toInt32), iv (((p2 &&& (255 : Int32))).toUInt32.toUInt16.toUInt32.toInt32), iv (((p3 &&& (255 : Int32))).toUInt32.toUInt16.toUInt32.toInt32)] [(.int 1), (.int (p0 &&& (3 : Int32)))]))
    by_cases hc22 : (p0 &&& (3 : Int32)) = (1 : Int32)
    · skip
      refine go_st (fun t k => XS.icmpNo X0.here hx rfl (hb hby d31_48) rfl (teq (hc22 : (p0 &&& (3 : Int32)) = (1 : Int32))).2 k) ?_
      show Go _ _ _ _ (s₁.setTop (mkF m 51 #[iv p0, iv p1, iv p2, iv p3, iv (p0 &&& (3 : Int32)), iv (((p1 &&& (255 : Int32))).toUInt32.toUInt16.toUInt32.toInt32), iv (((p2 &&& (255 : Int32))).toUInt32.toUInt16.toUInt32.toInt32), iv (((p3 &&& (255 : Int32))).toUInt32.toUInt16.toUInt32.toInt32)] []))
      obtain ⟨T23, h23, X23, e23, E23, A23, D23, -, st23⟩ := newO X0 hx hZ hown (w37 hw) (w38 hw) (w39 hw) e0 (g := (mkF m 51 #[iv p0, iv p1, iv p2, iv p3, iv (p0 &&& (3 : Int32)), iv (((p1 &&& (255 : Int32))).toUInt32.toUInt16.toUInt32.toInt32), iv (((p2 &&& (255 : Int32))).toUInt32.toUInt16.toUInt32.toInt32), iv (((p3 &&& (255 : Int32))).toUInt32.toUInt16.toUInt32.toInt32)] [])) rfl (hb hby d31_51) (by decide) (by decide)
      obtain ⟨b23, gq23⟩ : ∃ z, z = h0.size := ⟨_, rfl⟩
      rw [← gq23] at A23 D23 st23
      have sn23 : Safe Z consts_1 s.vm h0 b23 := Safe.new (Nat.le_of_eq gq23.symm)
      have C24 : CHr Z consts_1 s.vm h0 s.vm h23 := CHr.trans C0 (CHr.ext E23 C0.1)
      have sf25 : Safe Z consts_1 s.vm h23 b23 := Safe.ext E23 C0.1 sn23
      have f26 : Fld Z h23 b23 cST "value" "[B" .null := D23 (Or.inr (w51 hw)) (ty := (.array .byte)) (by decide)
      have f27 : Fld Z h23 b23 cST "coder" "B" (.int 0) := D23 (Or.inr (w52 hw)) (ty := .byte) (by decide)
      refine go_st (fun t k => st23 t k) ?_
      refine go_st (fun t k => XS.dup X23.here hx rfl (hb hby d31_54) rfl rfl k) ?_
      refine go_st (fun t k => XS.iconst X23.here hx rfl (hb hby d31_55) k) ?_
      show Go _ _ _ _ (T23.setTop (mkF m 56 #[iv p0, iv p1, iv p2, iv p3, iv (p0 &&& (3 : Int32)), iv (((p1 &&& (255 : Int32))).toUInt32.toUInt16.toUInt32.toInt32), iv (((p2 &&& (255 : Int32))).toUInt32.toUInt16.toUInt32.toInt32), iv (((p3 &&& (255 : Int32))).toUInt32.toUInt16.toUInt32.toInt32)] [(.int 1), (.ref b23), (.ref b23)]))
      obtain ⟨T28, h28, kc28, X28, e28, E28, A28, st28⟩ := newP X23 hx hZ (aty := .char) (w40 hw) e23 (g := (mkF m 56 #[iv p0, iv p1, iv p2, iv p3, iv (p0 &&& (3 : Int32)), iv (((p1 &&& (255 : Int32))).toUInt32.toUInt16.toUInt32.toInt32), iv (((p2 &&& (255 : Int32))).toUInt32.toUInt16.toUInt32.toInt32), iv (((p3 &&& (255 : Int32))).toUInt32.toUInt16.toUInt32.toInt32)] [(.int 1), (.ref b23), (.ref b23)])) rfl (hb hby d31_56) rfl (by decide) (cap := 1) (by decide) (by decide) (by decide) (by decide)
      obtain ⟨b28, gq28⟩ : ∃ z, z = h23.size := ⟨_, rfl⟩
      rw [← gq28] at A28 st28
      have C29 : CHr Z consts_1 s.vm h0 s.vm h28 := CHr.trans C24 (CHr.ext E28 C24.1)
      have sf30 : Safe Z consts_1 s.vm h28 b23 := (Safe.ext E28 C24.1 sf25)
      have f31 : Arv Z h28 b28 kc28 .char (1 : Int32) [(.int 0)] (.int 0) := (Arv.new A28 (by decide)).pad (pad_rep [] (.int 0) 1)
      refine go_st (fun t k => st28 t k) ?_
      refine go_st (fun t k => XS.dup X28.here hx rfl (hb hby d31_58) rfl rfl k) ?_
      refine go_st (fun t k => XS.iconst X28.here hx rfl (hb hby d31_59) k) ?_
      refine go_st (fun t k => XS.iload X28.here hx rfl (hb hby d31_60) rfl k) ?_
      show Go _ _ _ _ (T28.setTop (mkF m 62 #[iv p0, iv p1, iv p2, iv p3, iv (p0 &&& (3 : Int32)), iv (((p1 &&& (255 : Int32))).toUInt32.toUInt16.toUInt32.toInt32), iv (((p2 &&& (255 : Int32))).toUInt32.toUInt16.toUInt32.toInt32), iv (((p3 &&& (255 : Int32))).toUInt32.toUInt16.toUInt32.toInt32)] [(.int (((p1 &&& (255 : Int32))).toUInt32.toUInt16.toUInt32.toInt32)), (.int 0), (.ref b28), (.ref b28), (.ref b23), (.ref b23)]))
      obtain ⟨zc32, zA32, zq32, zS32, zN32, zH32, zG32⟩ := id f31
      have hin32 : ¬ ((0 : Int32) < 0 ∨ zc32.slots.size ≤ ((0 : Int32)).toNatClampNeg) := inb_of zS32 ⟨by decide, by decide⟩
      obtain ⟨T32, h32, X32, e32, W32, st32⟩ := stC X28 hx hZ e28 zA32 (j := (0 : Int32)) hin32 (g := (mkF m 62 #[iv p0, iv p1, iv p2, iv p3, iv (p0 &&& (3 : Int32)), iv (((p1 &&& (255 : Int32))).toUInt32.toUInt16.toUInt32.toInt32), iv (((p2 &&& (255 : Int32))).toUInt32.toUInt16.toUInt32.toInt32), iv (((p3 &&& (255 : Int32))).toUInt32.toUInt16.toUInt32.toInt32)] [(.int (((p1 &&& (255 : Int32))).toUInt32.toUInt16.toUInt32.toInt32)), (.int 0), (.ref b28), (.ref b28), (.ref b23), (.ref b23)])) rfl rfl (hb hby d31_62)
      have g_b28 : n0 ≤ b28 := Nat.le_trans (Nat.le_trans Z0 E23.1) (Nat.le_of_eq gq28.symm)
      have N32 := Fr.snoc X32 N0 g_b28
      have C33 : CHr Z consts_1 s.vm h0 s.vm h32 := CHr.trans C29 (CHr.wr W32 (Safe.arv hZ.alike f31 (by decide)) C29.1)
      have sf34 : Safe Z consts_1 s.vm h32 b23 := (Safe.wr W32 (Safe.arv hZ.alike f31 (by decide)) C29.1 sf30)
      have f35 : Arv Z h32 b28 kc28 .char (1 : Int32) [(.int (nar .char (((p1 &&& (255 : Int32))).toUInt32.toUInt16.toUInt32.toInt32)))] (.int 0) := Arv.set zA32 zq32 zS32 zN32 zH32 zG32 (fits_nar_char _) W32 0 rfl (Nat.le_of_ble_eq_true rfl)
      refine go_st (fun t k => st32 t k) ?_
      show Go _ _ _ _ (T32.setTop (mkF m 63 #[iv p0, iv p1, iv p2, iv p3, iv (p0 &&& (3 : Int32)), iv (((p1 &&& (255 : Int32))).toUInt32.toUInt16.toUInt32.toInt32), iv (((p2 &&& (255 : Int32))).toUInt32.toUInt16.toUInt32.toInt32), iv (((p3 &&& (255 : Int32))).toUInt32.toUInt16.toUInt32.toInt32)] [(.ref b28), (.ref b23), (.ref b23)]))
      have f36 : Exa Z h32 b23 cST := ((A23.ext E28).wr W32)
      have nq37 : b23 ≠ b28 := Nat.ne_of_lt (Nat.lt_of_lt_of_le (Nat.lt_of_lt_of_le A23.lt (Nat.le_refl _)) (Nat.le_of_eq gq28.symm))
      have f38 : Fld Z h32 b23 cST "value" "[B" .null := ((f26.ext E28).other W32 (Or.inl nq37))
      have f39 : Fld Z h32 b23 cST "coder" "B" (.int 0) := ((f27.ext E28).other W32 (Or.inl nq37))
      have oe40 : Old Z n0 h23 := (Old.ext O0 E23)
      have oe41 : Old Z n0 h28 := (Old.ext oe40 E28)
      have oe42 : Old Z n0 h32 := (Old.wr oe41 W32 g_b28)
      have g_b23 : n0 ≤ b23 := Nat.le_trans (Nat.le_trans Z0 (Nat.le_refl _)) (Nat.le_of_eq gq23.symm)
      have sz43 : h0.size ≤ h28.size := (Nat.le_trans E23.1 E28.1)
      have sz44 : h0.size ≤ h32.size := (Nat.le_trans sz43 (Nat.le_of_eq W32.size.symm))
      obtain ⟨_, _, ⟨T45, L45, kk45, nn45⟩, -, X45, ⟨Lc45, hQ45, lq45, yq45, zq45⟩, st45⟩ := X32.specialBack hx (y := (⟨"java/lang/String", "<init>", "([C)V"⟩ : MethodName)) rfl hown (mvT hZ (w41 hw)) (mvT hZ (w42 hw)) (mvT hZ (w43 hw)) (by decide) (StrChars.Road.backV (W := 1) hZ (words_in str_words hw) (kI := 4) (w38 hw) (cs := ([(nar .char (((p1 &&& (255 : Int32))).toUInt32.toUInt16.toUInt32.toInt32))] : List Int32)) (bs := ([(nar .char (((p1 &&& (255 : Int32))).toUInt32.toUInt16.toUInt32.toInt32))] : List Int32).map (fun c => c.toInt8.toInt32)) (n := 1) g_b23 (Nat.le_trans Z0 sz44) f36 f38 f39 f35 (Sta.ext oe42.2 CS) CSn rfl rfl (by decide) (by decide) (chars_cons (and255_chars _) chars_nil) rfl (by decide) (by decide)) (g := (mkF m 63 #[iv p0, iv p1, iv p2, iv p3, iv (p0 &&& (3 : Int32)), iv (((p1 &&& (255 : Int32))).toUInt32.toUInt16.toUInt32.toInt32), iv (((p2 &&& (255 : Int32))).toUInt32.toUInt16.toUInt32.toInt32), iv (((p3 &&& (255 : Int32))).toUInt32.toUInt16.toUInt32.toInt32)] [(.ref b28), (.ref b23), (.ref b23)])) rfl (by rw [hml]; rfl) (Steps.refl _) (a := b23) (argsL := [(.ref b28)]) (rest := [(.ref b23)]) (lenOf pd_18 rfl) rfl (by show 2 * 0 + _ ≤ _; exact Nat.le_of_eq rfl) (hb hby d31_63) (fun _ _ => ⟨rfl, e32, (by decide : 2 + 1 ≤ _), (by decide : 5 + 1 ≤ _)⟩)
      dsimp only [Pt.U, Pt.locs, Pt.cells, Pt.slots] at X45 lq45 yq45 zq45 st45 hQ45
      subst lq45 yq45 zq45
      obtain ⟨h45, e45⟩ : ∃ z, T45.heap = z := ⟨_, rfl⟩
      rw [e45] at hQ45
      obtain ⟨rfl, N45q, K45, Es45, Cs45, t45, kb45, gt45, lt45, nt45, Vs45, As45⟩ := hQ45
      have N45 := Fr.app N32 N45q
      have C46 : CHr Z consts_1 s.vm h0 s.vm h45 := CHr.trans C33 (CHr.keep K45 (sfS sf34 sf0) C33.1)
      have sf47 : Safe Z consts_1 s.vm h45 b23 := (Safe.keep K45 (sfS sf34 sf0) C33.1 sf34)
      refine go_tr st45 ?_
      show Go _ _ _ _ (T45.setTop (mkF m 66 #[iv p0, iv p1, iv p2, iv p3, iv (p0 &&& (3 : Int32)), iv (((p1 &&& (255 : Int32))).toUInt32.toUInt16.toUInt32.toInt32), iv (((p2 &&& (255 : Int32))).toUInt32.toUInt16.toUInt32.toInt32), iv (((p3 &&& (255 : Int32))).toUInt32.toUInt16.toUInt32.toInt32)] [(.ref b23)]))
      have ke48 : Keep h0 h23 [] := (Keep.ext (Keep.refl h0 []) E23)
      have ke49 : Keep h0 h28 [] := (Keep.ext ke48 E28)
      have ke50 : Keep h0 h32 [] := (Keep.wr ke49 W32 (Or.inr (Nat.le_trans E23.1 (Nat.le_of_eq gq28.symm))))
      have ke51 : Keep h0 h45 [] := (Keep.trans ke50 K45 (allS (Or.inr (Nat.le_of_eq gq23.symm)) all0))
      have sz52 : h0.size ≤ h45.size := (Nat.le_trans sz44 K45.1)
      obtain ⟨fs, hr, hrun, hended, hR⟩ := X45.leaveW hS0 (by rw [e45]; exact (Nat.le_trans hk0 sz52)) (v := some (.ref b23)) (fun h => by rw [Bd.returns] at h; cases h)
      refine ⟨_, _, ?_, hrun, hended, _, _, rfl, ?_, ?_, hR.1, hR.2.1, hR.2.2.1, hR.2.2.2.mono (by decide) (by decide)⟩
      · exact retOut X45 hx Bd.returns rfl (Or.inr (Or.inr (Or.inr (Or.inr ⟨rfl, rfl, rfl⟩)))) (hb hby d31_66) hr
      · show Q_name _ _ _ _ _ _ _ _ _ T45.heap _
        rw [e45]
        exact ⟨b23, rfl, N45, ke51, g_b23, (Nat.le_of_eq gq23.symm), Es45⟩
      · show CHr Z consts_1 s.vm s.heap T45.vm T45.heap
        rw [hh, e45]
        exact CHr.trans C46 (CHv.at X45 hZ (hEL hw) C46.1)
    · skip
      refine go_st (fun t k => XS.icmpYes X0.here hx rfl (pc0 := 48) (pc' := 67) rfl (hb hby d31_48) rfl (feq (hc22 : ¬ ((p0 &&& (3 : Int32)) = (1 : Int32)))).2 (by decide) (by decide) k) ?_
      show Go _ _ _ _ (s₁.setTop (mkF m 67 #[iv p0, iv p1, iv p2, iv p3, iv (p0 &&& (3 : Int32)), iv (((p1 &&& (255 : Int32))).toUInt32.toUInt16.toUInt32.toInt32), iv (((p2 &&& (255 : Int32))).toUInt32.toUInt16.toUInt32.toInt32), iv (((p3 &&& (255 : Int32))).toUInt32.toUInt16.toUInt32.toInt32)] []))
      refine go_st (fun t k => XS.iload X0.here hx rfl (hb hby d31_67) rfl k) ?_
      refine go_st (fun t k => XS.iconst X0.here hx rfl (hb hby d31_69) k) ?_
      show Go _ _ _ _ (s₁.setTop (mkF m 70 #[iv p0, iv p1, iv p2, iv p3, iv (p0 &&& (3 : Int32)), iv (((p1 &&& (255 : Int32))).toUInt32.toUInt16.toUInt32.toInt32), iv (((p2 &&& (255 : Int32))).toUInt32.toUInt16.toUInt32.toInt32), iv (((p3 &&& (255 : Int32))).toUInt32.toUInt16.toUInt32.toInt32)] [(.int 2), (.int (p0 &&& (3 : Int32)))]))
      by_cases hc53 : (p0 &&& (3 : Int32)) = (2 : Int32)
      · skip
        refine go_st (fun t k => XS.icmpNo X0.here hx rfl (hb hby d31_70) rfl (teq (hc53 : (p0 &&& (3 : Int32)) = (2 : Int32))).2 k) ?_
        show Go _ _ _ _ (s₁.setTop (mkF m 73 #[iv p0, iv p1, iv p2, iv p3, iv (p0 &&& (3 : Int32)), iv (((p1 &&& (255 : Int32))).toUInt32.toUInt16.toUInt32.toInt32), iv (((p2 &&& (255 : Int32))).toUInt32.toUInt16.toUInt32.toInt32), iv (((p3 &&& (255 : Int32))).toUInt32.toUInt16.toUInt32.toInt32)] []))
        obtain ⟨T54, h54, X54, e54, E54, A54, D54, -, st54⟩ := newO X0 hx hZ hown (w37 hw) (w38 hw) (w39 hw) e0 (g := (mkF m 73 #[iv p0, iv p1, iv p2, iv p3, iv (p0 &&& (3 : Int32)), iv (((p1 &&& (255 : Int32))).toUInt32.toUInt16.toUInt32.toInt32), iv (((p2 &&& (255 : Int32))).toUInt32.toUInt16.toUInt32.toInt32), iv (((p3 &&& (255 : Int32))).toUInt32.toUInt16.toUInt32.toInt32)] [])) rfl (hb hby d31_73) (by decide) (by decide)
        obtain ⟨b54, gq54⟩ : ∃ z, z = h0.size := ⟨_, rfl⟩
        rw [← gq54] at A54 D54 st54
        have sn54 : Safe Z consts_1 s.vm h0 b54 := Safe.new (Nat.le_of_eq gq54.symm)
        have C55 : CHr Z consts_1 s.vm h0 s.vm h54 := CHr.trans C0 (CHr.ext E54 C0.1)
        have sf56 : Safe Z consts_1 s.vm h54 b54 := Safe.ext E54 C0.1 sn54
        have f57 : Fld Z h54 b54 cST "value" "[B" .null := D54 (Or.inr (w51 hw)) (ty := (.array .byte)) (by decide)
        have f58 : Fld Z h54 b54 cST "coder" "B" (.int 0) := D54 (Or.inr (w52 hw)) (ty := .byte) (by decide)
        refine go_st (fun t k => st54 t k) ?_
        refine go_st (fun t k => XS.dup X54.here hx rfl (hb hby d31_76) rfl rfl k) ?_
        refine go_st (fun t k => XS.iconst X54.here hx rfl (hb hby d31_77) k) ?_
        show Go _ _ _ _ (T54.setTop (mkF m 78 #[iv p0, iv p1, iv p2, iv p3, iv (p0 &&& (3 : Int32)), iv (((p1 &&& (255 : Int32))).toUInt32.toUInt16.toUInt32.toInt32), iv (((p2 &&& (255 : Int32))).toUInt32.toUInt16.toUInt32.toInt32), iv (((p3 &&& (255 : Int32))).toUInt32.toUInt16.toUInt32.toInt32)] [(.int 2), (.ref b54), (.ref b54)]))
        obtain ⟨T59, h59, kc59, X59, e59, E59, A59, st59⟩ := newP X54 hx hZ (aty := .char) (w40 hw) e54 (g := (mkF m 78 #[iv p0, iv p1, iv p2, iv p3, iv (p0 &&& (3 : Int32)), iv (((p1 &&& (255 : Int32))).toUInt32.toUInt16.toUInt32.toInt32), iv (((p2 &&& (255 : Int32))).toUInt32.toUInt16.toUInt32.toInt32), iv (((p3 &&& (255 : Int32))).toUInt32.toUInt16.toUInt32.toInt32)] [(.int 2), (.ref b54), (.ref b54)])) rfl (hb hby d31_78) rfl (by decide) (cap := 2) (by decide) (by decide) (by decide) (by decide)
        obtain ⟨b59, gq59⟩ : ∃ z, z = h54.size := ⟨_, rfl⟩
        rw [← gq59] at A59 st59
        have C60 : CHr Z consts_1 s.vm h0 s.vm h59 := CHr.trans C55 (CHr.ext E59 C55.1)
        have sf61 : Safe Z consts_1 s.vm h59 b54 := (Safe.ext E59 C55.1 sf56)
        have f62 : Arv Z h59 b59 kc59 .char (2 : Int32) [(.int 0), (.int 0)] (.int 0) := (Arv.new A59 (by decide)).pad (pad_rep [] (.int 0) 2)
        refine go_st (fun t k => st59 t k) ?_
        refine go_st (fun t k => XS.dup X59.here hx rfl (hb hby d31_80) rfl rfl k) ?_
        refine go_st (fun t k => XS.iconst X59.here hx rfl (hb hby d31_81) k) ?_
        refine go_st (fun t k => XS.iload X59.here hx rfl (hb hby d31_82) rfl k) ?_
        show Go _ _ _ _ (T59.setTop (mkF m 84 #[iv p0, iv p1, iv p2, iv p3, iv (p0 &&& (3 : Int32)), iv (((p1 &&& (255 : Int32))).toUInt32.toUInt16.toUInt32.toInt32), iv (((p2 &&& (255 : Int32))).toUInt32.toUInt16.toUInt32.toInt32), iv (((p3 &&& (255 : Int32))).toUInt32.toUInt16.toUInt32.toInt32)] [(.int (((p1 &&& (255 : Int32))).toUInt32.toUInt16.toUInt32.toInt32)), (.int 0), (.ref b59), (.ref b59), (.ref b54), (.ref b54)]))
        obtain ⟨zc63, zA63, zq63, zS63, zN63, zH63, zG63⟩ := id f62
        have hin63 : ¬ ((0 : Int32) < 0 ∨ zc63.slots.size ≤ ((0 : Int32)).toNatClampNeg) := inb_of zS63 ⟨by decide, by decide⟩
        obtain ⟨T63, h63, X63, e63, W63, st63⟩ := stC X59 hx hZ e59 zA63 (j := (0 : Int32)) hin63 (g := (mkF m 84 #[iv p0, iv p1, iv p2, iv p3, iv (p0 &&& (3 : Int32)), iv (((p1 &&& (255 : Int32))).toUInt32.toUInt16.toUInt32.toInt32), iv (((p2 &&& (255 : Int32))).toUInt32.toUInt16.toUInt32.toInt32), iv (((p3 &&& (255 : Int32))).toUInt32.toUInt16.toUInt32.toInt32)] [(.int (((p1 &&& (255 : Int32))).toUInt32.toUInt16.toUInt32.toInt32)), (.int 0), (.ref b59), (.ref b59), (.ref b54), (.ref b54)])) rfl rfl (hb hby d31_84)
        have g_b59 : n0 ≤ b59 := Nat.le_trans (Nat.le_trans Z0 E54.1) (Nat.le_of_eq gq59.symm)
        have N63 := Fr.snoc X63 N0 g_b59
        have C64 : CHr Z consts_1 s.vm h0 s.vm h63 := CHr.trans C60 (CHr.wr W63 (Safe.arv hZ.alike f62 (by decide)) C60.1)
        have sf65 : Safe Z consts_1 s.vm h63 b54 := (Safe.wr W63 (Safe.arv hZ.alike f62 (by decide)) C60.1 sf61)
        have f66 : Arv Z h63 b59 kc59 .char (2 : Int32) [(.int (nar .char (((p1 &&& (255 : Int32))).toUInt32.toUInt16.toUInt32.toInt32))), (.int 0)] (.int 0) := Arv.set zA63 zq63 zS63 zN63 zH63 zG63 (fits_nar_char _) W63 0 rfl (Nat.le_of_ble_eq_true rfl)
        refine go_st (fun t k => st63 t k) ?_
        refine go_st (fun t k => XS.dup X63.here hx rfl (hb hby d31_85) rfl rfl k) ?_
        refine go_st (fun t k => XS.iconst X63.here hx rfl (hb hby d31_86) k) ?_
        refine go_st (fun t k => XS.iload X63.here hx rfl (hb hby d31_87) rfl k) ?_
        show Go _ _ _ _ (T63.setTop (mkF m 89 #[iv p0, iv p1, iv p2, iv p3, iv (p0 &&& (3 : Int32)), iv (((p1 &&& (255 : Int32))).toUInt32.toUInt16.toUInt32.toInt32), iv (((p2 &&& (255 : Int32))).toUInt32.toUInt16.toUInt32.toInt32), iv (((p3 &&& (255 : Int32))).toUInt32.toUInt16.toUInt32.toInt32)] [(.int (((p2 &&& (255 : Int32))).toUInt32.toUInt16.toUInt32.toInt32)), (.int 1), (.ref b59), (.ref b59), (.ref b54), (.ref b54)]))
        obtain ⟨zc67, zA67, zq67, zS67, zN67, zH67, zG67⟩ := id f66
        have hin67 : ¬ ((1 : Int32) < 0 ∨ zc67.slots.size ≤ ((1 : Int32)).toNatClampNeg) := inb_of zS67 ⟨by decide, by decide⟩
        obtain ⟨T67, h67, X67, e67, W67, st67⟩ := stC X63 hx hZ e63 zA67 (j := (1 : Int32)) hin67 (g := (mkF m 89 #[iv p0, iv p1, iv p2, iv p3, iv (p0 &&& (3 : Int32)), iv (((p1 &&& (255 : Int32))).toUInt32.toUInt16.toUInt32.toInt32), iv (((p2 &&& (255 : Int32))).toUInt32.toUInt16.toUInt32.toInt32), iv (((p3 &&& (255 : Int32))).toUInt32.toUInt16.toUInt32.toInt32)] [(.int (((p2 &&& (255 : Int32))).toUInt32.toUInt16.toUInt32.toInt32)), (.int 1), (.ref b59), (.ref b59), (.ref b54), (.ref b54)])) rfl rfl (hb hby d31_89)
        have N67 := Fr.snoc X67 N63 g_b59
        have C68 : CHr Z consts_1 s.vm h0 s.vm h67 := CHr.trans C64 (CHr.wr W67 (Safe.arv hZ.alike f66 (by decide)) C64.1)
        have sf69 : Safe Z consts_1 s.vm h67 b54 := (Safe.wr W67 (Safe.arv hZ.alike f66 (by decide)) C64.1 sf65)
        have f70 : Arv Z h67 b59 kc59 .char (2 : Int32) [(.int (nar .char (((p1 &&& (255 : Int32))).toUInt32.toUInt16.toUInt32.toInt32))), (.int (nar .char (((p2 &&& (255 : Int32))).toUInt32.toUInt16.toUInt32.toInt32)))] (.int 0) := Arv.set zA67 zq67 zS67 zN67 zH67 zG67 (fits_nar_char _) W67 1 rfl (Nat.le_of_ble_eq_true rfl)
        refine go_st (fun t k => st67 t k) ?_
        show Go _ _ _ _ (T67.setTop (mkF m 90 #[iv p0, iv p1, iv p2, iv p3, iv (p0 &&& (3 : Int32)), iv (((p1 &&& (255 : Int32))).toUInt32.toUInt16.toUInt32.toInt32), iv (((p2 &&& (255 : Int32))).toUInt32.toUInt16.toUInt32.toInt32), iv (((p3 &&& (255 : Int32))).toUInt32.toUInt16.toUInt32.toInt32)] [(.ref b59), (.ref b54), (.ref b54)]))
        have f71 : Exa Z h67 b54 cST := (((A54.ext E59).wr W63).wr W67)
        have nq72 : b54 ≠ b59 := Nat.ne_of_lt (Nat.lt_of_lt_of_le (Nat.lt_of_lt_of_le A54.lt (Nat.le_refl _)) (Nat.le_of_eq gq59.symm))
        have f73 : Fld Z h67 b54 cST "value" "[B" .null := (((f57.ext E59).other W63 (Or.inl nq72)).other W67 (Or.inl nq72))
        have f74 : Fld Z h67 b54 cST "coder" "B" (.int 0) := (((f58.ext E59).other W63 (Or.inl nq72)).other W67 (Or.inl nq72))
        have oe75 : Old Z n0 h54 := (Old.ext O0 E54)
        have oe76 : Old Z n0 h59 := (Old.ext oe75 E59)
        have oe77 : Old Z n0 h63 := (Old.wr oe76 W63 g_b59)
        have oe78 : Old Z n0 h67 := (Old.wr oe77 W67 g_b59)
        have g_b54 : n0 ≤ b54 := Nat.le_trans (Nat.le_trans Z0 (Nat.le_refl _)) (Nat.le_of_eq gq54.symm)
        have sz79 : h0.size ≤ h59.size := (Nat.le_trans E54.1 E59.1)
        have sz80 : h0.size ≤ h63.size := (Nat.le_trans sz79 (Nat.le_of_eq W63.size.symm))
        have sz81 : h0.size ≤ h67.size := (Nat.le_trans sz80 (Nat.le_of_eq W67.size.symm))
        obtain ⟨_, _, ⟨T82, L82, kk82, nn82⟩, -, X82, ⟨Lc82, hQ82, lq82, yq82, zq82⟩, st82⟩ := X67.specialBack hx (y := (⟨"java/lang/String", "<init>", "([C)V"⟩ : MethodName)) rfl hown (mvT hZ (w41 hw)) (mvT hZ (w42 hw)) (mvT hZ (w43 hw)) (by decide) (StrChars.Road.backV (W := 1) hZ (words_in str_words hw) (kI := 4) (w38 hw) (cs := ([(nar .char (((p1 &&& (255 : Int32))).toUInt32.toUInt16.toUInt32.toInt32)), (nar .char (((p2 &&& (255 : Int32))).toUInt32.toUInt16.toUInt32.toInt32))] : List Int32)) (bs := ([(nar .char (((p1 &&& (255 : Int32))).toUInt32.toUInt16.toUInt32.toInt32)), (nar .char (((p2 &&& (255 : Int32))).toUInt32.toUInt16.toUInt32.toInt32))] : List Int32).map (fun c => c.toInt8.toInt32)) (n := 2) g_b54 (Nat.le_trans Z0 sz81) f71 f73 f74 f70 (Sta.ext oe78.2 CS) CSn rfl rfl (by decide) (by decide) (chars_cons (and255_chars _) (chars_cons (and255_chars _) chars_nil)) rfl (by decide) (by decide)) (g := (mkF m 90 #[iv p0, iv p1, iv p2, iv p3, iv (p0 &&& (3 : Int32)), iv (((p1 &&& (255 : Int32))).toUInt32.toUInt16.toUInt32.toInt32), iv (((p2 &&& (255 : Int32))).toUInt32.toUInt16.toUInt32.toInt32), iv (((p3 &&& (255 : Int32))).toUInt32.toUInt16.toUInt32.toInt32)] [(.ref b59), (.ref b54), (.ref b54)])) rfl (by rw [hml]; rfl) (Steps.refl _) (a := b54) (argsL := [(.ref b59)]) (rest := [(.ref b54)]) (lenOf pd_18 rfl) rfl (by show 2 * 0 + _ ≤ _; exact Nat.le_of_eq rfl) (hb hby d31_90) (fun _ _ => ⟨rfl, e67, (by decide : 2 + 1 ≤ _), (by decide : 6 + 2 ≤ _)⟩)
        dsimp only [Pt.U, Pt.locs, Pt.cells, Pt.slots] at X82 lq82 yq82 zq82 st82 hQ82
        subst lq82 yq82 zq82
        obtain ⟨h82, e82⟩ : ∃ z, T82.heap = z := ⟨_, rfl⟩
        rw [e82] at hQ82
        obtain ⟨rfl, N82q, K82, Es82, Cs82, t82, kb82, gt82, lt82, nt82, Vs82, As82⟩ := hQ82
        have N82 := Fr.app N67 N82q
        have C83 : CHr Z consts_1 s.vm h0 s.vm h82 := CHr.trans C68 (CHr.keep K82 (sfS sf69 sf0) C68.1)
        have sf84 : Safe Z consts_1 s.vm h82 b54 := (Safe.keep K82 (sfS sf69 sf0) C68.1 sf69)
        refine go_tr st82 ?_
        show Go _ _ _ _ (T82.setTop (mkF m 93 #[iv p0, iv p1, iv p2, iv p3, iv (p0 &&& (3 : Int32)), iv (((p1 &&& (255 : Int32))).toUInt32.toUInt16.toUInt32.toInt32), iv (((p2 &&& (255 : Int32))).toUInt32.toUInt16.toUInt32.toInt32), iv (((p3 &&& (255 : Int32))).toUInt32.toUInt16.toUInt32.toInt32)] [(.ref b54)]))
        have ke85 : Keep h0 h54 [] := (Keep.ext (Keep.refl h0 []) E54)
        have ke86 : Keep h0 h59 [] := (Keep.ext ke85 E59)
        have ke87 : Keep h0 h63 [] := (Keep.wr ke86 W63 (Or.inr (Nat.le_trans E54.1 (Nat.le_of_eq gq59.symm))))
        have ke88 : Keep h0 h67 [] := (Keep.wr ke87 W67 (Or.inr (Nat.le_trans E54.1 (Nat.le_of_eq gq59.symm))))
        have ke89 : Keep h0 h82 [] := (Keep.trans ke88 K82 (allS (Or.inr (Nat.le_of_eq gq54.symm)) all0))
        have sz90 : h0.size ≤ h82.size := (Nat.le_trans sz81 K82.1)
        obtain ⟨fs, hr, hrun, hended, hR⟩ := X82.leaveW hS0 (by rw [e82]; exact (Nat.le_trans hk0 sz90)) (v := some (.ref b54)) (fun h => by rw [Bd.returns] at h; cases h)
        refine ⟨_, _, ?_, hrun, hended, _, _, rfl, ?_, ?_, hR.1, hR.2.1, hR.2.2.1, hR.2.2.2.mono (by decide) (by decide)⟩
        · exact retOut X82 hx Bd.returns rfl (Or.inr (Or.inr (Or.inr (Or.inr ⟨rfl, rfl, rfl⟩)))) (hb hby d31_93) hr
        · show Q_name _ _ _ _ _ _ _ _ _ T82.heap _
          rw [e82]
          exact ⟨b54, rfl, N82, ke89, g_b54, (Nat.le_of_eq gq54.symm), Es82⟩
        · show CHr Z consts_1 s.vm s.heap T82.vm T82.heap
          rw [hh, e82]
          exact CHr.trans C83 (CHv.at X82 hZ (hEL hw) C83.1)
      · skip
        refine go_st (fun t k => XS.icmpYes X0.here hx rfl (pc0 := 70) (pc' := 94) rfl (hb hby d31_70) rfl (feq (hc53 : ¬ ((p0 &&& (3 : Int32)) = (2 : Int32)))).2 (by decide) (by decide) k) ?_
        show Go _ _ _ _ (s₁.setTop (mkF m 94 #[iv p0, iv p1, iv p2, iv p3, iv (p0 &&& (3 : Int32)), iv (((p1 &&& (255 : Int32))).toUInt32.toUInt16.toUInt32.toInt32), iv (((p2 &&& (255 : Int32))).toUInt32.toUInt16.toUInt32.toInt32), iv (((p3 &&& (255 : Int32))).toUInt32.toUInt16.toUInt32.toInt32)] []))
        obtain ⟨T91, h91, X91, e91, E91, A91, D91, -, st91⟩ := newO X0 hx hZ hown (w37 hw) (w38 hw) (w39 hw) e0 (g := (mkF m 94 #[iv p0, iv p1, iv p2, iv p3, iv (p0 &&& (3 : Int32)), iv (((p1 &&& (255 : Int32))).toUInt32.toUInt16.toUInt32.toInt32), iv (((p2 &&& (255 : Int32))).toUInt32.toUInt16.toUInt32.toInt32), iv (((p3 &&& (255 : Int32))).toUInt32.toUInt16.toUInt32.toInt32)] [])) rfl (hb hby d31_94) (by decide) (by decide)
        obtain ⟨b91, gq91⟩ : ∃ z, z = h0.size := ⟨_, rfl⟩
        rw [← gq91] at A91 D91 st91
        have sn91 : Safe Z consts_1 s.vm h0 b91 := Safe.new (Nat.le_of_eq gq91.symm)
        have C92 : CHr Z consts_1 s.vm h0 s.vm h91 := CHr.trans C0 (CHr.ext E91 C0.1)
        have sf93 : Safe Z consts_1 s.vm h91 b91 := Safe.ext E91 C0.1 sn91
        have f94 : Fld Z h91 b91 cST "value" "[B" .null := D91 (Or.inr (w51 hw)) (ty := (.array .byte)) (by decide)
        have f95 : Fld Z h91 b91 cST "coder" "B" (.int 0) := D91 (Or.inr (w52 hw)) (ty := .byte) (by decide)
        refine go_st (fun t k => st91 t k) ?_
        refine go_st (fun t k => XS.dup X91.here hx rfl (hb hby d31_97) rfl rfl k) ?_
        refine go_st (fun t k => XS.iconst X91.here hx rfl (hb hby d31_98) k) ?_
        show Go _ _ _ _ (T91.setTop (mkF m 99 #[iv p0, iv p1, iv p2, iv p3, iv (p0 &&& (3 : Int32)), iv (((p1 &&& (255 : Int32))).toUInt32.toUInt16.toUInt32.toInt32), iv (((p2 &&& (255 : Int32))).toUInt32.toUInt16.toUInt32.toInt32), iv (((p3 &&& (255 : Int32))).toUInt32.toUInt16.toUInt32.toInt32)] [(.int 3), (.ref b91), (.ref b91)]))
        obtain ⟨T96, h96, kc96, X96, e96, E96, A96, st96⟩ := newP X91 hx hZ (aty := .char) (w40 hw) e91 (g := (mkF m 99 #[iv p0, iv p1, iv p2, iv p3, iv (p0 &&& (3 : Int32)), iv (((p1 &&& (255 : Int32))).toUInt32.toUInt16.toUInt32.toInt32), iv (((p2 &&& (255 : Int32))).toUInt32.toUInt16.toUInt32.toInt32), iv (((p3 &&& (255 : Int32))).toUInt32.toUInt16.toUInt32.toInt32)] [(.int 3), (.ref b91), (.ref b91)])) rfl (hb hby d31_99) rfl (by decide) (cap := 3) (by decide) (by decide) (by decide) (by decide)
        obtain ⟨b96, gq96⟩ : ∃ z, z = h91.size := ⟨_, rfl⟩
        rw [← gq96] at A96 st96
        have C97 : CHr Z consts_1 s.vm h0 s.vm h96 := CHr.trans C92 (CHr.ext E96 C92.1)
        have sf98 : Safe Z consts_1 s.vm h96 b91 := (Safe.ext E96 C92.1 sf93)
        have f99 : Arv Z h96 b96 kc96 .char (3 : Int32) [(.int 0), (.int 0), (.int 0)] (.int 0) := (Arv.new A96 (by decide)).pad (pad_rep [] (.int 0) 3)
        refine go_st (fun t k => st96 t k) ?_
        refine go_st (fun t k => XS.dup X96.here hx rfl (hb hby d31_101) rfl rfl k) ?_
        refine go_st (fun t k => XS.iconst X96.here hx rfl (hb hby d31_102) k) ?_
        refine go_st (fun t k => XS.iload X96.here hx rfl (hb hby d31_103) rfl k) ?_
        show Go _ _ _ _ (T96.setTop (mkF m 105 #[iv p0, iv p1, iv p2, iv p3, iv (p0 &&& (3 : Int32)), iv (((p1 &&& (255 : Int32))).toUInt32.toUInt16.toUInt32.toInt32), iv (((p2 &&& (255 : Int32))).toUInt32.toUInt16.toUInt32.toInt32), iv (((p3 &&& (255 : Int32))).toUInt32.toUInt16.toUInt32.toInt32)] [(.int (((p1 &&& (255 : Int32))).toUInt32.toUInt16.toUInt32.toInt32)), (.int 0), (.ref b96), (.ref b96), (.ref b91), (.ref b91)]))
        obtain ⟨zc100, zA100, zq100, zS100, zN100, zH100, zG100⟩ := id f99
        have hin100 : ¬ ((0 : Int32) < 0 ∨ zc100.slots.size ≤ ((0 : Int32)).toNatClampNeg) := inb_of zS100 ⟨by decide, by decide⟩
        obtain ⟨T100, h100, X100, e100, W100, st100⟩ := stC X96 hx hZ e96 zA100 (j := (0 : Int32)) hin100 (g := (mkF m 105 #[iv p0, iv p1, iv p2, iv p3, iv (p0 &&& (3 : Int32)), iv (((p1 &&& (255 : Int32))).toUInt32.toUInt16.toUInt32.toInt32), iv (((p2 &&& (255 : Int32))).toUInt32.toUInt16.toUInt32.toInt32), iv (((p3 &&& (255 : Int32))).toUInt32.toUInt16.toUInt32.toInt32)] [(.int (((p1 &&& (255 : Int32))).toUInt32.toUInt16.toUInt32.toInt32)), (.int 0), (.ref b96), (.ref b96), (.ref b91), (.ref b91)])) rfl rfl (hb hby d31_105)
        have g_b96 : n0 ≤ b96 := Nat.le_trans (Nat.le_trans Z0 E91.1) (Nat.le_of_eq gq96.symm)
        have N100 := Fr.snoc X100 N0 g_b96
        have C101 : CHr Z consts_1 s.vm h0 s.vm h100 := CHr.trans C97 (CHr.wr W100 (Safe.arv hZ.alike f99 (by decide)) C97.1)
        have sf102 : Safe Z consts_1 s.vm h100 b91 := (Safe.wr W100 (Safe.arv hZ.alike f99 (by decide)) C97.1 sf98)
        have f103 : Arv Z h100 b96 kc96 .char (3 : Int32) [(.int (nar .char (((p1 &&& (255 : Int32))).toUInt32.toUInt16.toUInt32.toInt32))), (.int 0), (.int 0)] (.int 0) := Arv.set zA100 zq100 zS100 zN100 zH100 zG100 (fits_nar_char _) W100 0 rfl (Nat.le_of_ble_eq_true rfl)
        refine go_st (fun t k => st100 t k) ?_
        refine go_st (fun t k => XS.dup X100.here hx rfl (hb hby d31_106) rfl rfl k) ?_
        refine go_st (fun t k => XS.iconst X100.here hx rfl (hb hby d31_107) k) ?_
        refine go_st (fun t k => XS.iload X100.here hx rfl (hb hby d31_108) rfl k) ?_
        show Go _ _ _ _ (T100.setTop (mkF m 110 #[iv p0, iv p1, iv p2, iv p3, iv (p0 &&& (3 : Int32)), iv (((p1 &&& (255 : Int32))).toUInt32.toUInt16.toUInt32.toInt32), iv (((p2 &&& (255 : Int32))).toUInt32.toUInt16.toUInt32.toInt32), iv (((p3 &&& (255 : Int32))).toUInt32.toUInt16.toUInt32.toInt32)] [(.int (((p2 &&& (255 : Int32))).toUInt32.toUInt16.toUInt32.toInt32)), (.int 1), (.ref b96), (.ref b96), (.ref b91), (.ref b91)]))
        obtain ⟨zc104, zA104, zq104, zS104, zN104, zH104, zG104⟩ := id f103
        have hin104 : ¬ ((1 : Int32) < 0 ∨ zc104.slots.size ≤ ((1 : Int32)).toNatClampNeg) := inb_of zS104 ⟨by decide, by decide⟩
        obtain ⟨T104, h104, X104, e104, W104, st104⟩ := stC X100 hx hZ e100 zA104 (j := (1 : Int32)) hin104 (g := (mkF m 110 #[iv p0, iv p1, iv p2, iv p3, iv (p0 &&& (3 : Int32)), iv (((p1 &&& (255 : Int32))).toUInt32.toUInt16.toUInt32.toInt32), iv (((p2 &&& (255 : Int32))).toUInt32.toUInt16.toUInt32.toInt32), iv (((p3 &&& (255 : Int32))).toUInt32.toUInt16.toUInt32.toInt32)] [(.int (((p2 &&& (255 : Int32))).toUInt32.toUInt16.toUInt32.toInt32)), (.int 1), (.ref b96), (.ref b96), (.ref b91), (.ref b91)])) rfl rfl (hb hby d31_110)
        have N104 := Fr.snoc X104 N100 g_b96
        have C105 : CHr Z consts_1 s.vm h0 s.vm h104 := CHr.trans C101 (CHr.wr W104 (Safe.arv hZ.alike f103 (by decide)) C101.1)
        have sf106 : Safe Z consts_1 s.vm h104 b91 := (Safe.wr W104 (Safe.arv hZ.alike f103 (by decide)) C101.1 sf102)
        have f107 : Arv Z h104 b96 kc96 .char (3 : Int32) [(.int (nar .char (((p1 &&& (255 : Int32))).toUInt32.toUInt16.toUInt32.toInt32))), (.int (nar .char (((p2 &&& (255 : Int32))).toUInt32.toUInt16.toUInt32.toInt32))), (.int 0)] (.int 0) := Arv.set zA104 zq104 zS104 zN104 zH104 zG104 (fits_nar_char _) W104 1 rfl (Nat.le_of_ble_eq_true rfl)
        refine go_st (fun t k => st104 t k) ?_
        refine go_st (fun t k => XS.dup X104.here hx rfl (hb hby d31_111) rfl rfl k) ?_
        refine go_st (fun t k => XS.iconst X104.here hx rfl (hb hby d31_112) k) ?_
        refine go_st (fun t k => XS.iload X104.here hx rfl (hb hby d31_113) rfl k) ?_
        show Go _ _ _ _ (T104.setTop (mkF m 115 #[iv p0, iv p1, iv p2, iv p3, iv (p0 &&& (3 : Int32)), iv (((p1 &&& (255 : Int32))).toUInt32.toUInt16.toUInt32.toInt32), iv (((p2 &&& (255 : Int32))).toUInt32.toUInt16.toUInt32.toInt32), iv (((p3 &&& (255 : Int32))).toUInt32.toUInt16.toUInt32.toInt32)] [(.int (((p3 &&& (255 : Int32))).toUInt32.toUInt16.toUInt32.toInt32)), (.int 2), (.ref b96), (.ref b96), (.ref b91), (.ref b91)]))
        obtain ⟨zc108, zA108, zq108, zS108, zN108, zH108, zG108⟩ := id f107
        have hin108 : ¬ ((2 : Int32) < 0 ∨ zc108.slots.size ≤ ((2 : Int32)).toNatClampNeg) := inb_of zS108 ⟨by decide, by decide⟩
        obtain ⟨T108, h108, X108, e108, W108, st108⟩ := stC X104 hx hZ e104 zA108 (j := (2 : Int32)) hin108 (g := (mkF m 115 #[iv p0, iv p1, iv p2, iv p3, iv (p0 &&& (3 : Int32)), iv (((p1 &&& (255 : Int32))).toUInt32.toUInt16.toUInt32.toInt32), iv (((p2 &&& (255 : Int32))).toUInt32.toUInt16.toUInt32.toInt32), iv (((p3 &&& (255 : Int32))).toUInt32.toUInt16.toUInt32.toInt32)] [(.int (((p3 &&& (255 : Int32))).toUInt32.toUInt16.toUInt32.toInt32)), (.int 2), (.ref b96), (.ref b96), (.ref b91), (.ref b91)])) rfl rfl (hb hby d31_115)
        have N108 := Fr.snoc X108 N104 g_b96
        have C109 : CHr Z consts_1 s.vm h0 s.vm h108 := CHr.trans C105 (CHr.wr W108 (Safe.arv hZ.alike f107 (by decide)) C105.1)
        have sf110 : Safe Z consts_1 s.vm h108 b91 := (Safe.wr W108 (Safe.arv hZ.alike f107 (by decide)) C105.1 sf106)
        have f111 : Arv Z h108 b96 kc96 .char (3 : Int32) [(.int (nar .char (((p1 &&& (255 : Int32))).toUInt32.toUInt16.toUInt32.toInt32))), (.int (nar .char (((p2 &&& (255 : Int32))).toUInt32.toUInt16.toUInt32.toInt32))), (.int (nar .char (((p3 &&& (255 : Int32))).toUInt32.toUInt16.toUInt32.toInt32)))] (.int 0) := Arv.set zA108 zq108 zS108 zN108 zH108 zG108 (fits_nar_char _) W108 2 rfl (Nat.le_of_ble_eq_true rfl)
        refine go_st (fun t k => st108 t k) ?_
        show Go _ _ _ _ (T108.setTop (mkF m 116 #[iv p0, iv p1, iv p2, iv p3, iv (p0 &&& (3 : Int32)), iv (((p1 &&& (255 : Int32))).toUInt32.toUInt16.toUInt32.toInt32), iv (((p2 &&& (255 : Int32))).toUInt32.toUInt16.toUInt32.toInt32), iv (((p3 &&& (255 : Int32))).toUInt32.toUInt16.toUInt32.toInt32)] [(.ref b96), (.ref b91), (.ref b91)]))
        have f112 : Exa Z h108 b91 cST := ((((A91.ext E96).wr W100).wr W104).wr W108)
        have nq113 : b91 ≠ b96 := Nat.ne_of_lt (Nat.lt_of_lt_of_le (Nat.lt_of_lt_of_le A91.lt (Nat.le_refl _)) (Nat.le_of_eq gq96.symm))
        have f114 : Fld Z h108 b91 cST "value" "[B" .null := ((((f94.ext E96).other W100 (Or.inl nq113)).other W104 (Or.inl nq113)).other W108 (Or.inl nq113))
        have f115 : Fld Z h108 b91 cST "coder" "B" (.int 0) := ((((f95.ext E96).other W100 (Or.inl nq113)).other W104 (Or.inl nq113)).other W108 (Or.inl nq113))
        have oe116 : Old Z n0 h91 := (Old.ext O0 E91)
        have oe117 : Old Z n0 h96 := (Old.ext oe116 E96)
        have oe118 : Old Z n0 h100 := (Old.wr oe117 W100 g_b96)
        have oe119 : Old Z n0 h104 := (Old.wr oe118 W104 g_b96)
        have oe120 : Old Z n0 h108 := (Old.wr oe119 W108 g_b96)
        have g_b91 : n0 ≤ b91 := Nat.le_trans (Nat.le_trans Z0 (Nat.le_refl _)) (Nat.le_of_eq gq91.symm)
        have sz121 : h0.size ≤ h96.size := (Nat.le_trans E91.1 E96.1)
        have sz122 : h0.size ≤ h100.size := (Nat.le_trans sz121 (Nat.le_of_eq W100.size.symm))
        have sz123 : h0.size ≤ h104.size := (Nat.le_trans sz122 (Nat.le_of_eq W104.size.symm))
        have sz124 : h0.size ≤ h108.size := (Nat.le_trans sz123 (Nat.le_of_eq W108.size.symm))
        obtain ⟨_, _, ⟨T125, L125, kk125, nn125⟩, -, X125, ⟨Lc125, hQ125, lq125, yq125, zq125⟩, st125⟩ := X108.specialBack hx (y := (⟨"java/lang/String", "<init>", "([C)V"⟩ : MethodName)) rfl hown (mvT hZ (w41 hw)) (mvT hZ (w42 hw)) (mvT hZ (w43 hw)) (by decide) (StrChars.Road.backV (W := 1) hZ (words_in str_words hw) (kI := 4) (w38 hw) (cs := ([(nar .char (((p1 &&& (255 : Int32))).toUInt32.toUInt16.toUInt32.toInt32)), (nar .char (((p2 &&& (255 : Int32))).toUInt32.toUInt16.toUInt32.toInt32)), (nar .char (((p3 &&& (255 : Int32))).toUInt32.toUInt16.toUInt32.toInt32))] : List Int32)) (bs := ([(nar .char (((p1 &&& (255 : Int32))).toUInt32.toUInt16.toUInt32.toInt32)), (nar .char (((p2 &&& (255 : Int32))).toUInt32.toUInt16.toUInt32.toInt32)), (nar .char (((p3 &&& (255 : Int32))).toUInt32.toUInt16.toUInt32.toInt32))] : List Int32).map (fun c => c.toInt8.toInt32)) (n := 3) g_b91 (Nat.le_trans Z0 sz124) f112 f114 f115 f111 (Sta.ext oe120.2 CS) CSn rfl rfl (by decide) (by decide) (chars_cons (and255_chars _) (chars_cons (and255_chars _) (chars_cons (and255_chars _) chars_nil))) rfl (by decide) (by decide)) (g := (mkF m 116 #[iv p0, iv p1, iv p2, iv p3, iv (p0 &&& (3 : Int32)), iv (((p1 &&& (255 : Int32))).toUInt32.toUInt16.toUInt32.toInt32), iv (((p2 &&& (255 : Int32))).toUInt32.toUInt16.toUInt32.toInt32), iv (((p3 &&& (255 : Int32))).toUInt32.toUInt16.toUInt32.toInt32)] [(.ref b96), (.ref b91), (.ref b91)])) rfl (by rw [hml]; rfl) (Steps.refl _) (a := b91) (argsL := [(.ref b96)]) (rest := [(.ref b91)]) (lenOf pd_18 rfl) rfl (by show 2 * 0 + _ ≤ _; exact Nat.le_of_eq rfl) (hb hby d31_116) (fun _ _ => ⟨rfl, e108, (by decide : 2 + 1 ≤ _), (by decide : 7 + 3 ≤ _)⟩)
        dsimp only [Pt.U, Pt.locs, Pt.cells, Pt.slots] at X125 lq125 yq125 zq125 st125 hQ125
        subst lq125 yq125 zq125
        obtain ⟨h125, e125⟩ : ∃ z, T125.heap = z := ⟨_, rfl⟩
        rw [e125] at hQ125
        obtain ⟨rfl, N125q, K125, Es125, Cs125, t125, kb125, gt125, lt125, nt125, Vs125, As125⟩ := hQ125
        have N125 := Fr.app N108 N125q
        have C126 : CHr Z consts_1 s.vm h0 s.vm h125 := CHr.trans C109 (CHr.keep K125 (sfS sf110 sf0) C109.1)
        have sf127 : Safe Z consts_1 s.vm h125 b91 := (Safe.keep K125 (sfS sf110 sf0) C109.1 sf110)
        refine go_tr st125 ?_
        show Go _ _ _ _ (T125.setTop (mkF m 119 #[iv p0, iv p1, iv p2, iv p3, iv (p0 &&& (3 : Int32)), iv (((p1 &&& (255 : Int32))).toUInt32.toUInt16.toUInt32.toInt32), iv (((p2 &&& (255 : Int32))).toUInt32.toUInt16.toUInt32.toInt32), iv (((p3 &&& (255 : Int32))).toUInt32.toUInt16.toUInt32.toInt32)] [(.ref b91)]))
        have ke128 : Keep h0 h91 [] := (Keep.ext (Keep.refl h0 []) E91)
        have ke129 : Keep h0 h96 [] := (Keep.ext ke128 E96)
        have ke130 : Keep h0 h100 [] := (Keep.wr ke129 W100 (Or.inr (Nat.le_trans E91.1 (Nat.le_of_eq gq96.symm))))
        have ke131 : Keep h0 h104 [] := (Keep.wr ke130 W104 (Or.inr (Nat.le_trans E91.1 (Nat.le_of_eq gq96.symm))))
        have ke132 : Keep h0 h108 [] := (Keep.wr ke131 W108 (Or.inr (Nat.le_trans E91.1 (Nat.le_of_eq gq96.symm))))
        have ke133 : Keep h0 h125 [] := (Keep.trans ke132 K125 (allS (Or.inr (Nat.le_of_eq gq91.symm)) all0))
        have sz134 : h0.size ≤ h125.size := (Nat.le_trans sz124 K125.1)
        obtain ⟨fs, hr, hrun, hended, hR⟩ := X125.leaveW hS0 (by rw [e125]; exact (Nat.le_trans hk0 sz134)) (v := some (.ref b91)) (fun h => by rw [Bd.returns] at h; cases h)
        refine ⟨_, _, ?_, hrun, hended, _, _, rfl, ?_, ?_, hR.1, hR.2.1, hR.2.2.1, hR.2.2.2.mono (by decide) (by decide)⟩
        · exact retOut X125 hx Bd.returns rfl (Or.inr (Or.inr (Or.inr (Or.inr ⟨rfl, rfl, rfl⟩)))) (hb hby d31_119) hr
        · show Q_name _ _ _ _ _ _ _ _ _ T125.heap _
          rw [e125]
          exact ⟨b91, rfl, N125, ke133, g_b91, (Nat.le_of_eq gq91.symm), Es125⟩
        · show CHr Z consts_1 s.vm s.heap T125.vm T125.heap
          rw [hh, e125]
          exact CHr.trans C126 (CHv.at X125 hZ (hEL hw) C126.1)
theorem and255_c (x : Int32) : ¬ (x &&& (255 : Int32)).toUInt32.toUInt16.toUInt32.toInt32 < 0 ∧ ¬ (255 : Int32) < (x &&& (255 : Int32)).toUInt32.toUInt16.toUInt32.toInt32 := by
  have t : ∀ k : Fin 256, ¬ ((Int32.ofNat k.val).toUInt32.toUInt16.toUInt32.toInt32) < 0 ∧ ¬ (255 : Int32) < ((Int32.ofNat k.val).toUInt32.toUInt16.toUInt32.toInt32) := by decide +kernel
  have h : (x &&& 255).toBitVec.toNat < 256 := by
    simp only [Int32.toBitVec_and, BitVec.toNat_and]
    exact Nat.lt_succ_of_le Nat.and_le_right
  have e : (x &&& 255) = Int32.ofNat (x &&& 255).toBitVec.toNat := by
    apply Int32.toBitVec_inj.mp
    show _ = BitVec.ofNat 32 _
    rw [BitVec.ofNat_toNat]; simp
  rw [e]
  exact t ⟨_, h⟩
def Q_can (Z : State) (ch : Int32) (h0 : Heap) (n0 : Nat) (vR : Option Value) (h : Heap) (L : List Loc) : Prop := vR = some (.int 1) ∧ Fr n0 L ∧ h = h0
theorem ef_can (m : MethodId) (x0 : Int32) : entryFrame m #[(.int x0)] 1 = mkF m 0 #[.val (.int x0)] [] := by first | (simp [entryFrame, mkF, argsToLocals, Value.category]; done) | rfl
set_option maxRecDepth 65536 in
set_option maxHeartbeats 40000000 in
theorem rm_can (l : Launch) (Z : State) (a0 : Array Value) (hw : ∀ d ∈ tables_1, d.before a0 Z = true) (ws : List Jvm.Cond) (ch : Int32) (h0 : Heap) (n0 : Nat) (Z0 : n0 ≤ h0.size) (hch : ¬ ((255 : Int32) < ch)) :
    MetFree l (⟨"java/lang/StringLatin1", "canEncode", "(C)Z"⟩ : MethodName) (head1 (Jvm.Cond.code (⟨"java/lang/StringLatin1", "canEncode", "(C)Z"⟩ : MethodName) jdk_43_method_3_code 1 (some .boolean) :: ws) ({ frames := 0, cells := 0, slots := 0, locals := 0 } : Room)) (fun a U => a = #[(.int ch)] ∧ Z.Warmed39 U.vm ∧ U.heap = h0) (fun _ _ _ _ _ => True) (fun _ U o U' => ∃ v L, o = .returned v ∧ Q_can Z ch h0 n0 v U'.heap L ∧ FrameEnd U o U' L ({ frames := 0, cells := 0, slots := 0, locals := 0 } : Room).cells ({ frames := 0, cells := 0, slots := 0, locals := 0 } : Room).slots) := by
  refine MetFree.of_bodySF (plainFor_of_name pn_java_lang_StringLatin1) hisR ?_
  intro p e s m args below meth c s₁ Bd hml0 hP hK
  obtain ⟨rfl, hZ, hh⟩ := hP
  have hx := Bd.exec
  have hby := Bd.bytes
  have hml : c.maxLocals = 1 := hml0
  have hown : s.vm.findClass "java/lang/StringLatin1" = some m.cls := findClass_of_methodNamed Bd.named
  have hnm := (name_of_methodNamed Bd.named Bd.method).1
  have X0 : Stand p l e ({ frames := 0, cells := 0, slots := 0, locals := 0 } : Room) s m #[(.int ch)] below meth c s₁ [] 0 0 := Stand.of_body Bd
  have e0 : s₁.heap = h0 := by rw [← hh, Bd.state]; rfl
  have N0 := Fr.nil n0
  refine go_st (fun t k => castTop (ef_can m ch) k) ?_
  show Go _ _ _ _ (s₁.setTop (mkF m 0 #[iv ch] []))
  refine go_st (fun t k => XS.iloadN X0.here hx rfl (hb hby d33_0) rfl k) ?_
  refine go_st (fun t k => XS.sipush X0.here hx rfl (hb hby d33_1) k) ?_
  show Go _ _ _ _ (s₁.setTop (mkF m 4 #[iv ch] [(.int 255), (.int ch)]))
  refine go_st (fun t k => XS.icmpNo X0.here hx rfl (hb hby d33_4) rfl (flt (hch : ¬ ((255 : Int32) < ch))).2.2.1 k) ?_
  show Go _ _ _ _ (s₁.setTop (mkF m 7 #[iv ch] []))
  refine go_st (fun t k => XS.iconst X0.here hx rfl (hb hby d33_7) k) ?_
  refine go_st (fun t k => XS.goto X0.here hx rfl (pc0 := 8) (pc' := 12) rfl (hb hby d33_8) (by decide) (by decide) k) ?_
  show Go _ _ _ _ (s₁.setTop (mkF m 12 #[iv ch] [(.int 1)]))
  obtain ⟨fs, hr, hrun, hended, hW, hsame⟩ := X0.leave (v := some (.int 1)) (fun h => by rw [Bd.returns] at h; cases h)
  refine ⟨_, _, ?_, hrun, hended, _, _, rfl, ?_, ⟨_, rfl⟩, hW, hsame.mono (by decide) (by decide)⟩
  · exact retN X0 hx (t := .boolean) Bd.returns (by simp) (hb hby d33_12) hr
  · show Q_can _ _ _ _ _ s₁.heap _
    rw [e0]
    exact ⟨rfl, N0, rfl⟩
def Q_tob (Z : State) (ch : Int32) (h0 : Heap) (n0 : Nat) (vR : Option Value) (h : Heap) (L : List Loc) : Prop := ∃ (ta : Addr) (kt : ClassId), vR = some (.ref ta) ∧ Fr n0 L ∧ Keep h0 h [] ∧ n0 ≤ ta ∧ h0.size ≤ ta ∧ (Arv Z h ta kt .byte (1 : Int32) [(.int (nar .byte (ch.toInt8.toInt32)))] (.int (0 : Int32)))
theorem ef_tob (m : MethodId) (x0 : Int32) : entryFrame m #[(.int x0)] 1 = mkF m 0 #[.val (.int x0)] [] := by first | (simp [entryFrame, mkF, argsToLocals, Value.category]; done) | rfl
set_option maxRecDepth 65536 in
set_option maxHeartbeats 40000000 in
theorem rm_tob (l : Launch) (Z : State) (a0 : Array Value) (hw : ∀ d ∈ tables_1, d.before a0 Z = true) (ws : List Jvm.Cond) (ch : Int32) (h0 : Heap) (n0 : Nat) (Z0 : n0 ≤ h0.size) (hch : ¬ ((255 : Int32) < ch)) :
    MetFree l (⟨"java/lang/StringLatin1", "toBytes", "(C)[B"⟩ : MethodName) (head1 (Jvm.Cond.code (⟨"java/lang/StringLatin1", "toBytes", "(C)[B"⟩ : MethodName) jdk_43_method_46_code 1 (some (.array .byte)) :: ws) ({ frames := 0, cells := 1, slots := 1, locals := 0 } : Room)) (fun a U => a = #[(.int ch)] ∧ Z.Warmed39 U.vm ∧ U.heap = h0) (fun _ _ _ _ _ => True) (fun _ U o U' => ∃ v L, o = .returned v ∧ Q_tob Z ch h0 n0 v U'.heap L ∧ FrameEnd U o U' L ({ frames := 0, cells := 1, slots := 1, locals := 0 } : Room).cells ({ frames := 0, cells := 1, slots := 1, locals := 0 } : Room).slots) := by
  refine MetFree.of_bodySF (plainFor_of_name pn_java_lang_StringLatin1) hisR ?_
  intro p e s m args below meth c s₁ Bd hml0 hP hK
  obtain ⟨rfl, hZ, hh⟩ := hP
  have hx := Bd.exec
  have hby := Bd.bytes
  have hml : c.maxLocals = 1 := hml0
  have hown : s.vm.findClass "java/lang/StringLatin1" = some m.cls := findClass_of_methodNamed Bd.named
  have hnm := (name_of_methodNamed Bd.named Bd.method).1
  have X0 : Stand p l e ({ frames := 0, cells := 1, slots := 1, locals := 0 } : Room) s m #[(.int ch)] below meth c s₁ [] 0 0 := Stand.of_body Bd
  have e0 : s₁.heap = h0 := by rw [← hh, Bd.state]; rfl
  have N0 := Fr.nil n0
  refine go_st (fun t k => castTop (ef_tob m ch) k) ?_
  show Go _ _ _ _ (s₁.setTop (mkF m 0 #[iv ch] []))
  refine go_st (fun t k => XS.iconst X0.here hx rfl (hb hby d34_0) k) ?_
  show Go _ _ _ _ (s₁.setTop (mkF m 1 #[iv ch] [(.int 1)]))
  obtain ⟨T1, h1, kc1, X1, e1, E1, A1, st1⟩ := newP X0 hx hZ (aty := .byte) (w50 hw) e0 (g := (mkF m 1 #[iv ch] [(.int 1)])) rfl (hb hby d34_1) rfl (by decide) (cap := 1) (by decide) (by decide) (by decide) (by decide)
  obtain ⟨b1, gq1⟩ : ∃ z, z = h0.size := ⟨_, rfl⟩
  rw [← gq1] at A1 st1
  have f2 : Arv Z h1 b1 kc1 .byte (1 : Int32) [(.int 0)] (.int 0) := (Arv.new A1 (by decide)).pad (pad_rep [] (.int 0) 1)
  refine go_st (fun t k => st1 t k) ?_
  refine go_st (fun t k => XS.dup X1.here hx rfl (hb hby d34_3) rfl rfl k) ?_
  refine go_st (fun t k => XS.iconst X1.here hx rfl (hb hby d34_4) k) ?_
  refine go_st (fun t k => XS.iloadN X1.here hx rfl (hb hby d34_5) rfl k) ?_
  show Go _ _ _ _ (T1.setTop (mkF m 6 #[iv ch] [(.int ch), (.int 0), (.ref b1), (.ref b1)]))
  refine go_st (fun t k => XS.i2b X1.here hx rfl (hb hby d34_6) rfl k) ?_
  show Go _ _ _ _ (T1.setTop (mkF m 7 #[iv ch] [(.int ((ch).toInt8.toInt32)), (.int 0), (.ref b1), (.ref b1)]))
  obtain ⟨zc3, zA3, zq3, zS3, zN3, zH3, zG3⟩ := id f2
  have hin3 : ¬ ((0 : Int32) < 0 ∨ zc3.slots.size ≤ ((0 : Int32)).toNatClampNeg) := inb_of zS3 ⟨by decide, by decide⟩
  obtain ⟨T3, h3, X3, e3, W3, st3⟩ := stB X1 hx hZ e1 zA3 (j := (0 : Int32)) hin3 (g := (mkF m 7 #[iv ch] [(.int ((ch).toInt8.toInt32)), (.int 0), (.ref b1), (.ref b1)])) rfl rfl (hb hby d34_7)
  have g_b1 : n0 ≤ b1 := Nat.le_trans (Nat.le_trans Z0 (Nat.le_refl _)) (Nat.le_of_eq gq1.symm)
  have N3 := Fr.snoc X3 N0 g_b1
  have f4 : Arv Z h3 b1 kc1 .byte (1 : Int32) [(.int (nar .byte ((ch).toInt8.toInt32)))] (.int 0) := Arv.set zA3 zq3 zS3 zN3 zH3 zG3 (fits_nar_byte _) W3 0 rfl (Nat.le_of_ble_eq_true rfl)
  refine go_st (fun t k => st3 t k) ?_
  show Go _ _ _ _ (T3.setTop (mkF m 8 #[iv ch] [(.ref b1)]))
  have ke5 : Keep h0 h1 [] := (Keep.ext (Keep.refl h0 []) E1)
  have ke6 : Keep h0 h3 [] := (Keep.wr ke5 W3 (Or.inr (Nat.le_of_eq gq1.symm)))
  obtain ⟨fs, hr, hrun, hended, hW, hsame⟩ := X3.leave (v := some (.ref b1)) (fun h => by rw [Bd.returns] at h; cases h)
  refine ⟨_, _, ?_, hrun, hended, _, _, rfl, ?_, ⟨_, rfl⟩, hW, hsame.mono (by decide) (by decide)⟩
  · exact retOut X3 hx Bd.returns rfl (Or.inr (Or.inr (Or.inr (Or.inr ⟨rfl, rfl, rfl⟩)))) (hb hby d34_8) hr
  · show Q_tob _ _ _ _ _ T3.heap _
    rw [e3]
    exact ⟨b1, kc1, rfl, N3, ke6, g_b1, (Nat.le_of_eq gq1.symm), f4⟩
def Q_strbb (Z : State) (sa : Addr) (ta : Addr) (h0 : Heap) (n0 : Nat) (vR : Option Value) (h : Heap) (L : List Loc) : Prop := vR = none ∧ Fr n0 L ∧ Keep h0 h [sa] ∧ (Exa Z h sa cST) ∧ (Fld Z h sa cST "value" "[B" (.ref ta)) ∧ (Fld Z h sa cST "coder" "B" (.int 0))
theorem ef_strbb (m : MethodId) (x0 : Addr) (x1 : Addr) (x2 : Int32) : entryFrame m #[(.ref x0), (.ref x1), (.int x2)] 3 = mkF m 0 #[.val (.ref x0), .val (.ref x1), .val (.int x2)] [] := by first | (simp [entryFrame, mkF, argsToLocals, Value.category]; done) | rfl
set_option maxRecDepth 65536 in
set_option maxHeartbeats 40000000 in
theorem rm_strbb (l : Launch) (Z : State) (a0 : Array Value) (hw : ∀ d ∈ tables_1, d.before a0 Z = true) (ws : List Jvm.Cond) (sa : Addr) (ta : Addr) (h0 : Heap) (n0 : Nat) (Z0 : n0 ≤ h0.size) (H0 : Exa Z h0 sa cST) (H1 : Fld Z h0 sa cST "value" "[B" .null) (H2 : Fld Z h0 sa cST "coder" "B" (.int 0)) (g_sa : n0 ≤ sa) :
    MetFree l (⟨"java/lang/String", "<init>", "([BB)V"⟩ : MethodName) (head1 (Jvm.Cond.code (⟨"java/lang/String", "<init>", "([BB)V"⟩ : MethodName) jdk_42_method_151_code 3 none :: ws) ({ frames := 1, cells := 0, slots := 0, locals := 12 } : Room)) (fun a U => a = #[(.ref sa), (.ref ta), (.int 0)] ∧ Z.Warmed39 U.vm ∧ U.heap = h0) (fun _ _ _ _ _ => True) (fun _ U o U' => ∃ v L, o = .returned v ∧ Q_strbb Z sa ta h0 n0 v U'.heap L ∧ FrameEnd U o U' L ({ frames := 1, cells := 0, slots := 0, locals := 12 } : Room).cells ({ frames := 1, cells := 0, slots := 0, locals := 12 } : Room).slots) := by
  refine MetFree.of_bodySF (plainFor_of_name pn_java_lang_String) hisR ?_
  intro p e s m args below meth c s₁ Bd hml0 hP hK
  obtain ⟨rfl, hZ, hh⟩ := hP
  have hx := Bd.exec
  have hby := Bd.bytes
  have hml : c.maxLocals = 3 := hml0
  have hown : s.vm.findClass "java/lang/String" = some m.cls := findClass_of_methodNamed Bd.named
  have hnm := (name_of_methodNamed Bd.named Bd.method).1
  have X0 : Stand p l e ({ frames := 1, cells := 0, slots := 0, locals := 12 } : Room) s m #[(.ref sa), (.ref ta), (.int 0)] below meth c s₁ [] 0 0 := Stand.of_body Bd
  have e0 : s₁.heap = h0 := by rw [← hh, Bd.state]; rfl
  have N0 := Fr.nil n0
  refine go_st (fun t k => castTop (ef_strbb m sa ta (0 : Int32)) k) ?_
  show Go _ _ _ _ (s₁.setTop (mkF m 0 #[rv sa, rv ta, iv 0] []))
  refine go_st (fun t k => XS.aloadN X0.here hx rfl (hb hby d35_0) rfl rfl k) ?_
  show Go _ _ _ _ (s₁.setTop (mkF m 1 #[rv sa, rv ta, iv 0] [(.ref sa)]))
  obtain ⟨T1, X1, e1, st1⟩ := initO X0 hx hZ hown (w48 hw) (w13 hw) (w14 hw) e0 (g := (mkF m 1 #[rv sa, rv ta, iv 0] [(.ref sa)])) rfl (by rw [hml]; rfl) rfl (hb hby d35_1) (by decide) (W := 0) (by show 2 * 0 + _ ≤ _; exact Nat.le_of_eq rfl) (by decide)
  refine go_st (fun t k => st1 t k) ?_
  refine go_st (fun t k => XS.aloadN X1.here hx rfl (hb hby d35_4) rfl rfl k) ?_
  refine go_st (fun t k => XS.aloadN X1.here hx rfl (hb hby d35_5) rfl rfl k) ?_
  show Go _ _ _ _ (T1.setTop (mkF m 6 #[rv sa, rv ta, iv 0] [(.ref ta), (.ref sa)]))
  obtain ⟨T2, h2, X2, e2, W2, st2⟩ := putF X1 hx hZ hown (host := "") (Or.inl (w55 hw)) Via.refl e1 H1 H0 (Or.inr ⟨(w51 hw), rfl, hnm⟩) (w38 hw) (ty := (.array .byte)) (by decide) rfl rfl (g := (mkF m 6 #[rv sa, rv ta, iv 0] [(.ref ta), (.ref sa)])) rfl rfl (hb hby d35_6)
  have N2 := Fr.snoc X2 N0 g_sa
  have f3 : Fld Z h2 sa cST "value" "[B" (.ref ta) := H1.same W2
  refine go_st (fun t k => st2 t k) ?_
  refine go_st (fun t k => XS.aloadN X2.here hx rfl (hb hby d35_9) rfl rfl k) ?_
  refine go_st (fun t k => XS.iloadN X2.here hx rfl (hb hby d35_10) rfl k) ?_
  show Go _ _ _ _ (T2.setTop (mkF m 11 #[rv sa, rv ta, iv 0] [(.int 0), (.ref sa)]))
  have f4 : Fld Z h2 sa cST "coder" "B" (.int 0) := (H2.other W2 (Or.inr (slot_ne (Or.inr (w52 hw)) (Or.inr (w51 hw)) (by decide) (t := .byte) (t' := (.array .byte)) (by decide) (by decide))))
  have f5 : Exa Z h2 sa cST := (H0.wr W2)
  obtain ⟨T6, h6, X6, e6, W6, st6⟩ := putFN X2 hx hZ hown (w56 hw) Via.refl e2 f4 f5 (Or.inr ⟨(w52 hw), rfl, hnm⟩) (w38 hw) (ty := .byte) (v' := (.int 0)) (by decide) rfl rfl (g := (mkF m 11 #[rv sa, rv ta, iv 0] [(.int 0), (.ref sa)])) rfl rfl (hb hby d35_11)
  have N6 := Fr.snoc X6 N2 g_sa
  have f7 : Fld Z h6 sa cST "coder" "B" (.int 0) := f4.same W6
  refine go_st (fun t k => st6 t k) ?_
  show Go _ _ _ _ (T6.setTop (mkF m 14 #[rv sa, rv ta, iv 0] []))
  have f8 : Exa Z h6 sa cST := (f5.wr W6)
  have f9 : Fld Z h6 sa cST "value" "[B" (.ref ta) := (f3.other W6 (Or.inr (slot_ne (Or.inr (w51 hw)) (Or.inr (w52 hw)) (by decide) (t := (.array .byte)) (t' := .byte) (by decide) (by decide))))
  have ke10 : Keep h0 h2 [sa] := (Keep.wr (Keep.refl h0 [sa]) W2 (Or.inl (List.mem_of_getElem? (i := 0) rfl)))
  have ke11 : Keep h0 h6 [sa] := (Keep.wr ke10 W6 (Or.inl (List.mem_of_getElem? (i := 0) rfl)))
  obtain ⟨fs, hr, hrun, hended, hW, hsame⟩ := X6.leave (v := none) (fun _ => rfl)
  refine ⟨_, _, ?_, hrun, hended, _, _, rfl, ?_, ⟨_, rfl⟩, hW, hsame.mono (by decide) (by decide)⟩
  · exact X6.returnOut hx Bd.returns (hb hby d35_14) hr
  · show Q_strbb _ _ _ _ _ _ T6.heap _
    rw [e6]
    exact ⟨rfl, N6, ke11, f8, f9, f7⟩
def Q_vof (Z : State) (ch : Int32) (G1 : Int32) (h0 : Heap) (n0 : Nat) (vR : Option Value) (h : Heap) (L : List Loc) : Prop := ∃ (sa : Addr) (ta : Addr) (kt : ClassId), vR = some (.ref sa) ∧ Fr n0 L ∧ Keep h0 h [] ∧ n0 ≤ sa ∧ h0.size ≤ sa ∧ n0 ≤ ta ∧ h0.size ≤ ta ∧ (Exa Z h sa cST) ∧ (Fld Z h sa cST "value" "[B" (.ref ta)) ∧ (Fld Z h sa cST "coder" "B" (.int 0)) ∧ (Arv Z h ta kt .byte (1 : Int32) [(.int (nar .byte (ch.toInt8.toInt32)))] (.int (0 : Int32)))
theorem ef_vof (m : MethodId) (x0 : Int32) : entryFrame m #[(.int x0)] 1 = mkF m 0 #[.val (.int x0)] [] := by first | (simp [entryFrame, mkF, argsToLocals, Value.category]; done) | rfl
set_option maxRecDepth 65536 in
set_option maxHeartbeats 40000000 in
theorem rm_vof (l : Launch) (Z : State) (a0 : Array Value) (hw : ∀ d ∈ tables_1, d.before a0 Z = true) (ws : List Jvm.Cond) (ch : Int32) (G1 : Int32) (h0 : Heap) (n0 : Nat) (Z0 : n0 ≤ h0.size) (hch : ¬ ((255 : Int32) < ch)) (CS : Sta Z Z.heap "java/lang/String" "COMPACT_STRINGS" "Z" (.int G1)) (CSn : ¬ (G1 = (0 : Int32))) (O0 : Old Z n0 h0) :
    MetFree l (⟨"java/lang/String", "valueOf", "(C)Ljava/lang/String;"⟩ : MethodName) (head1 (Jvm.Cond.code (⟨"java/lang/String", "valueOf", "(C)Ljava/lang/String;"⟩ : MethodName) jdk_42_method_139_code 1 (some (.object "java/lang/String")) :: ws) ({ frames := 2, cells := 2, slots := 5, locals := 27 } : Room)) (fun a U => a = #[(.int ch)] ∧ Z.Warmed39 U.vm ∧ U.heap = h0) (fun _ _ _ _ _ => True) (fun _ U o U' => ∃ v L, o = .returned v ∧ Q_vof Z ch G1 h0 n0 v U'.heap L ∧ FrameEnd U o U' L ({ frames := 2, cells := 2, slots := 5, locals := 27 } : Room).cells ({ frames := 2, cells := 2, slots := 5, locals := 27 } : Room).slots) := by
  refine MetFree.of_bodySF (plainFor_of_name pn_java_lang_String) hisR ?_
  intro p e s m args below meth c s₁ Bd hml0 hP hK
  obtain ⟨rfl, hZ, hh⟩ := hP
  have hx := Bd.exec
  have hby := Bd.bytes
  have hml : c.maxLocals = 1 := hml0
  have hown : s.vm.findClass "java/lang/String" = some m.cls := findClass_of_methodNamed Bd.named
  have hnm := (name_of_methodNamed Bd.named Bd.method).1
  have X0 : Stand p l e ({ frames := 2, cells := 2, slots := 5, locals := 27 } : Room) s m #[(.int ch)] below meth c s₁ [] 0 0 := Stand.of_body Bd
  have e0 : s₁.heap = h0 := by rw [← hh, Bd.state]; rfl
  have N0 := Fr.nil n0
  refine go_st (fun t k => castTop (ef_vof m ch) k) ?_
  show Go _ _ _ _ (s₁.setTop (mkF m 0 #[iv ch] []))
  obtain ⟨T1, X1, e1, st1⟩ := getS2 X0 hx hZ hown (host := "") (Or.inl (w60 hw)) Via.refl e0 (Sta.ext O0.2 CS) (g := (mkF m 0 #[iv ch] [])) rfl (hb hby d32_0)
  refine go_st (fun t k => st1 t k) ?_
  show Go _ _ _ _ (T1.setTop (mkF m 3 #[iv ch] [(.int G1)]))
  refine go_st (fun t k => XS.ifNo X1.here hx rfl (hb hby d32_3) rfl ((if0 _ _).trans (feq (CSn : ¬ (G1 = (0 : Int32)))).1) k) ?_
  show Go _ _ _ _ (T1.setTop (mkF m 6 #[iv ch] []))
  refine go_st (fun t k => XS.iloadN X1.here hx rfl (hb hby d32_6) rfl k) ?_
  show Go _ _ _ _ (T1.setTop (mkF m 7 #[iv ch] [(.int ch)]))
  obtain ⟨_, _, ⟨T2, L2, kk2, nn2⟩, -, X2, ⟨Lc2, hQ2, lq2, yq2, zq2⟩, st2⟩ := Jvm.LawKit.callS X1 hx (y := (⟨"java/lang/StringLatin1", "canEncode", "(C)Z"⟩ : MethodName)) hown (mvT hZ (w61 hw)) (mvT hZ (w62 hw)) (mvT hZ (w63 hw)) (mvT hZ (w64 hw)) (by decide) (backOf (W := 0) (rm_can l Z a0 hw [] ch h0 n0 (Nat.le_trans Z0 (Nat.le_refl _)) hch) hZ (w64 hw) (w63 hw) (by decide) (by decide)) (g := (mkF m 7 #[iv ch] [(.int ch)])) rfl (by rw [hml]; rfl) (argsL := [(.int ch)]) (rest := []) (lenOf pd_20 rfl) rfl (by show 2 * 0 + _ ≤ _; exact Nat.le_of_eq rfl) (hb hby d32_7) (fun _ _ => ⟨rfl, e1, (by decide : 0 + 0 ≤ _), (by decide : 0 + 0 ≤ _)⟩)
  dsimp only [Pt.U, Pt.locs, Pt.cells, Pt.slots] at X2 lq2 yq2 zq2 st2 hQ2
  subst lq2 yq2 zq2
  obtain ⟨h2, e2⟩ : ∃ z, T2.heap = z := ⟨_, rfl⟩
  rw [e2] at hQ2
  obtain ⟨rfl, N2q, he2⟩ := hQ2
  have N2 := Fr.app N0 N2q
  rw [he2] at e2
  refine go_st st2 ?_
  show Go _ _ _ _ (T2.setTop (mkF m 10 #[iv ch] [(.int 1)]))
  refine go_st (fun t k => XS.ifNo X2.here hx rfl (hb hby d32_10) rfl ((if0 _ _).trans (feq ((by decide) : ¬ ((1 : Int32) = (0 : Int32)))).1) k) ?_
  show Go _ _ _ _ (T2.setTop (mkF m 13 #[iv ch] []))
  obtain ⟨T3, h3, X3, e3, E3, A3, D3, -, st3⟩ := newO X2 hx hZ hown (w65 hw) (w38 hw) (w39 hw) e2 (g := (mkF m 13 #[iv ch] [])) rfl (hb hby d32_13) (by decide) (by decide)
  obtain ⟨b3, gq3⟩ : ∃ z, z = h0.size := ⟨_, rfl⟩
  rw [← gq3] at A3 D3 st3
  have f4 : Fld Z h3 b3 cST "value" "[B" .null := D3 (Or.inr (w51 hw)) (ty := (.array .byte)) (by decide)
  have f5 : Fld Z h3 b3 cST "coder" "B" (.int 0) := D3 (Or.inr (w52 hw)) (ty := .byte) (by decide)
  refine go_st (fun t k => st3 t k) ?_
  refine go_st (fun t k => XS.dup X3.here hx rfl (hb hby d32_16) rfl rfl k) ?_
  refine go_st (fun t k => XS.iloadN X3.here hx rfl (hb hby d32_17) rfl k) ?_
  show Go _ _ _ _ (T3.setTop (mkF m 18 #[iv ch] [(.int ch), (.ref b3), (.ref b3)]))
  obtain ⟨_, _, ⟨T6, L6, kk6, nn6⟩, -, X6, ⟨Lc6, hQ6, lq6, yq6, zq6⟩, st6⟩ := Jvm.LawKit.callS X3 hx (y := (⟨"java/lang/StringLatin1", "toBytes", "(C)[B"⟩ : MethodName)) hown (mvT hZ (w66 hw)) (mvT hZ (w67 hw)) (mvT hZ (w63 hw)) (mvT hZ (w68 hw)) (by decide) (backOf (W := 2) (rm_tob l Z a0 hw [] ch h3 n0 (Nat.le_trans Z0 E3.1) hch) hZ (w68 hw) (w63 hw) (by decide) (by decide)) (g := (mkF m 18 #[iv ch] [(.int ch), (.ref b3), (.ref b3)])) rfl (by rw [hml]; rfl) (argsL := [(.int ch)]) (rest := [(.ref b3), (.ref b3)]) (lenOf pd_21 rfl) rfl (by show 2 * 0 + _ ≤ _; exact Nat.le_of_eq rfl) (hb hby d32_18) (fun _ _ => ⟨rfl, e3, (by decide : 1 + 1 ≤ _), (by decide : 4 + 1 ≤ _)⟩)
  dsimp only [Pt.U, Pt.locs, Pt.cells, Pt.slots] at X6 lq6 yq6 zq6 st6 hQ6
  subst lq6 yq6 zq6
  obtain ⟨h6, e6⟩ : ∃ z, T6.heap = z := ⟨_, rfl⟩
  rw [e6] at hQ6
  obtain ⟨ta_6, kt_6, rfl, N6q, K6, gf6_0, lf6_0, p6_1⟩ := hQ6
  have N6 := Fr.app N2 N6q
  refine go_st st6 ?_
  show Go _ _ _ _ (T6.setTop (mkF m 21 #[iv ch] [(.ref ta_6), (.ref b3), (.ref b3)]))
  refine go_st (fun t k => XS.iconst X6.here hx rfl (hb hby d32_21) k) ?_
  show Go _ _ _ _ (T6.setTop (mkF m 22 #[iv ch] [(.int 0), (.ref ta_6), (.ref b3), (.ref b3)]))
  have f7 : Exa Z h6 b3 cST := (A3.keep K6)
  have f8 : Fld Z h6 b3 cST "value" "[B" .null := (f4.keep K6 nin0)
  have f9 : Fld Z h6 b3 cST "coder" "B" (.int 0) := (f5.keep K6 nin0)
  have g_b3 : n0 ≤ b3 := Nat.le_trans (Nat.le_trans Z0 (Nat.le_refl _)) (Nat.le_of_eq gq3.symm)
  have sz10 : h0.size ≤ h6.size := (Nat.le_trans E3.1 K6.1)
  obtain ⟨_, _, ⟨T11, L11, kk11, nn11⟩, -, X11, ⟨Lc11, hQ11, lq11, yq11, zq11⟩, st11⟩ := X6.specialBack hx (y := (⟨"java/lang/String", "<init>", "([BB)V"⟩ : MethodName)) rfl hown (mvT hZ (w69 hw)) (mvT hZ (w70 hw)) (mvT hZ (w71 hw)) (by decide) (backOf (W := 1) (rm_strbb l Z a0 hw [] b3 ta_6 h6 n0 (Nat.le_trans Z0 sz10) f7 f8 f9 g_b3) hZ (w71 hw) (w39 hw) (by decide) (by decide)) (g := (mkF m 22 #[iv ch] [(.int 0), (.ref ta_6), (.ref b3), (.ref b3)])) rfl (by rw [hml]; rfl) (Steps.refl _) (a := b3) (argsL := [(.ref ta_6), (.int 0)]) (rest := [(.ref b3)]) (lenOf pd_22 rfl) rfl (by show 2 * 0 + _ ≤ _; exact Nat.le_of_eq rfl) (hb hby d32_22) (fun _ _ => ⟨rfl, e6, (by decide : 2 + 0 ≤ _), (by decide : 5 + 0 ≤ _)⟩)
  dsimp only [Pt.U, Pt.locs, Pt.cells, Pt.slots] at X11 lq11 yq11 zq11 st11 hQ11
  subst lq11 yq11 zq11
  obtain ⟨h11, e11⟩ : ∃ z, T11.heap = z := ⟨_, rfl⟩
  rw [e11] at hQ11
  obtain ⟨rfl, N11q, K11, p11_0, p11_1, p11_2⟩ := hQ11
  have N11 := Fr.app N6 N11q
  refine go_tr st11 ?_
  show Go _ _ _ _ (T11.setTop (mkF m 25 #[iv ch] [(.ref b3)]))
  have nq12 : b3 ≠ ta_6 := Nat.ne_of_lt (Nat.lt_of_lt_of_le (Nat.lt_of_lt_of_le A3.lt (Nat.le_refl _)) lf6_0)
  have f13 : Arv Z h11 ta_6 kt_6 .byte (1 : Int32) [(.int (nar .byte (ch.toInt8.toInt32)))] (.int (0 : Int32)) := (p6_1.keep K11 (ninS (Ne.symm nq12) nin0))
  have ke14 : Keep h0 h3 [] := (Keep.ext (Keep.refl h0 []) E3)
  have ke15 : Keep h0 h6 [] := (Keep.trans ke14 K6 all0)
  have ke16 : Keep h0 h11 [] := (Keep.trans ke15 K11 (allS (Or.inr (Nat.le_of_eq gq3.symm)) all0))
  obtain ⟨fs, hr, hrun, hended, hW, hsame⟩ := X11.leave (v := some (.ref b3)) (fun h => by rw [Bd.returns] at h; cases h)
  refine ⟨_, _, ?_, hrun, hended, _, _, rfl, ?_, ⟨_, rfl⟩, hW, hsame.mono (by decide) (by decide)⟩
  · exact retOut X11 hx Bd.returns rfl (Or.inr (Or.inr (Or.inr (Or.inr ⟨rfl, rfl, rfl⟩)))) (hb hby d32_25) hr
  · show Q_vof _ _ _ _ _ _ T11.heap _
    rw [e11]
    exact ⟨b3, ta_6, kt_6, rfl, N11, ke16, g_b3, (Nat.le_of_eq gq3.symm), gf6_0, (Nat.le_trans E3.1 lf6_0), p11_0, p11_1, p11_2, f13⟩
def Q_law (Z : State) (p0 : Int32) (p1 : Int32) (p2 : Int32) (p3 : Int32) (p4 : Int32) (G1 : Int32) (de : Addr) (kd : ClassId) (h0 : Heap) (n0 : Nat) (vR : Option Value) (h : Heap) (L : List Loc) : Prop := vR = some (.int 1) ∧ Fr n0 L ∧ Keep h0 h []
theorem ef_law (m : MethodId) (x0 : Int32) (x1 : Int32) (x2 : Int32) (x3 : Int32) (x4 : Int32) : entryFrame m #[(.int x0), (.int x1), (.int x2), (.int x3), (.int x4)] maxLocals = mkF m 0 #[.val (.int x0), .val (.int x1), .val (.int x2), .val (.int x3), .val (.int x4), .unset, .unset, .unset, .unset, .unset, .unset, .unset] [] := by first | (simp [entryFrame, mkF, argsToLocals, Value.category, maxLocals]; done) | rfl
set_option maxRecDepth 65536 in
set_option maxHeartbeats 40000000 in
theorem rm_law (l : Launch) (Z : State) (a0 : Array Value) (hw : ∀ d ∈ tables_1, d.before a0 Z = true) (ws : List Jvm.Cond) (p0 : Int32) (p1 : Int32) (p2 : Int32) (p3 : Int32) (p4 : Int32) (G1 : Int32) (de : Addr) (kd : ClassId) (h0 : Heap) (n0 : Nat) (Z0 : n0 ≤ h0.size) (CS : Sta Z Z.heap "java/lang/String" "COMPACT_STRINGS" "Z" (.int G1)) (CSn : ¬ (G1 = (0 : Int32))) (DES : Sta Z Z.heap "java/util/ArrayList" "DEFAULTCAPACITY_EMPTY_ELEMENTDATA" "[Ljava/lang/Object;" (.ref de)) (zl_de : de < Z.heap.size) (H4 : Arv Z h0 de kd (.object "java/lang/Object") (0 : Int32) [] .null) (O0 : Old Z n0 h0) :
    MetFree l x (head1 (Jvm.Cond.code x code maxLocals ret :: ws) room_1) (fun a U => a = #[(.int p0), (.int p1), (.int p2), (.int p3), (.int p4)] ∧ Z.Warmed39 U.vm ∧ U.heap = h0 ∧ CHv Z consts_1 U.vm h0) (fun _ _ _ _ _ => True) (fun _ U o U' => ∃ v L, o = .returned v ∧ Q_law Z p0 p1 p2 p3 p4 G1 de kd h0 n0 v U'.heap L ∧ CHr Z consts_1 U.vm U.heap U'.vm U'.heap ∧ ReturnedEndW U o U' L room_1.cells room_1.slots) := by
  refine MetFree.of_bodySF (plainFor_of_name pn_com_example_adjoinery_adjoinery_FeatureValueStructurePinLaw) hisR ?_
  intro p e s m args below meth c s₁ Bd hml0 hP hK
  obtain ⟨rfl, hZs, hh, HC0⟩ := hP
  have hx := Bd.exec
  have hby := Bd.bytes
  have hml : c.maxLocals = 12 := hml0
  have hZ : Z.Warmed39 (s.setVm s.vm).vm := hZs
  have hown : (s.setVm s.vm).vm.findClass "com/example/adjoinery/adjoinery/FeatureValueStructurePinLaw" = some m.cls := findClass_of_methodNamed Bd.named
  have hnm := (name_of_methodNamed Bd.named Bd.method).1
  have X0 : Stand p l e room_1 (s.setVm s.vm) m #[(.int p0), (.int p1), (.int p2), (.int p3), (.int p4)] below meth c s₁ [] 0 0 := Stand.of_body Bd
  have e0 : s₁.heap = h0 := by rw [← hh, Bd.state]; rfl
  have N0 := Fr.nil n0
  have hS0 : s.Since s.vm s.heap.size := (State.WarmedH.refl s).since _
  have hk0 : s.heap.size ≤ h0.size := Nat.le_of_eq (congrArg Array.size hh)
  have C0 : CHr Z consts_1 s.vm h0 s.vm h0 := CHr.refl HC0
  refine go_st (fun t k => castTop (ef_law m p0 p1 p2 p3 p4) k) ?_
  show Go _ _ _ _ (s₁.setTop (mkF m 0 #[iv p0, iv p1, iv p2, iv p3, iv p4, .unset, .unset, .unset, .unset, .unset, .unset, .unset] []))
  obtain ⟨_, _, ⟨T1, L1, kk1, nn1⟩, -, X1, ⟨Lc1, hQ1, lq1, yq1, zq1⟩, st1⟩ := Jvm.LawKit.callS X0 hx (y := mnS) hown (mvT hZ (w0 hw)) (mvT hZ (w1 hw)) (mvT hZ (w2 hw)) (mvT hZ (w3 hw)) (by decide) (backOf (W := 0) (rm_mkfv l Z a0 hw []  h0 n0 (Nat.le_trans Z0 (Nat.le_refl _)) ) hZ (w3 hw) (w2 hw) (by decide) (by decide)) (g := (mkF m 0 #[iv p0, iv p1, iv p2, iv p3, iv p4, .unset, .unset, .unset, .unset, .unset, .unset, .unset] [])) rfl (by rw [hml]; rfl) (argsL := []) (rest := []) (lenOf pd_9 rfl) rfl (by show 2 * 0 + _ ≤ _; exact Nat.le_of_eq rfl) (hb hby at_0) (fun _ _ => ⟨rfl, e0, (by decide : 0 + 4 ≤ _), (by decide : 0 + 17 ≤ _)⟩)
  dsimp only [Pt.U, Pt.locs, Pt.cells, Pt.slots] at X1 lq1 yq1 zq1 st1 hQ1
  subst lq1 yq1 zq1
  obtain ⟨h1, e1⟩ : ∃ z, T1.heap = z := ⟨_, rfl⟩
  rw [e1] at hQ1
  obtain ⟨fv_1, fl_1, na_1, va_1, kn_1, kv_1, rfl, N1q, K1, gf1_0, lf1_0, gf1_1, lf1_1, gf1_2, lf1_2, gf1_3, lf1_3, nx1_4, p1_5, p1_6, p1_7, p1_8, p1_9, p1_10, p1_11, p1_12, p1_13, p1_14, p1_15, p1_16, ov1_17, ov1_18⟩ := hQ1
  have N1 := Fr.app N0 N1q
  have C2 : CHr Z consts_1 s.vm h0 s.vm h1 := CHr.trans C0 (CHr.keep K1 sf0 C0.1)
  refine go_st st1 ?_
  show Go _ _ _ _ (T1.setTop (mkF m 3 #[iv p0, iv p1, iv p2, iv p3, iv p4, .unset, .unset, .unset, .unset, .unset, .unset, .unset] [(.ref fv_1)]))
  refine go_st (fun t k => XS.astore X1.here hx rfl (hb hby at_3) rfl rfl (l' := #[iv p0, iv p1, iv p2, iv p3, iv p4, rv fv_1, .unset, .unset, .unset, .unset, .unset, .unset]) rfl k) ?_
  show Go _ _ _ _ (T1.setTop (mkF m 5 #[iv p0, iv p1, iv p2, iv p3, iv p4, rv fv_1, .unset, .unset, .unset, .unset, .unset, .unset] []))
  obtain ⟨_, _, ⟨T3, L3, kk3, nn3⟩, -, X3, ⟨Lc3, hQ3, lq3, yq3, zq3⟩, st3⟩ := Jvm.LawKit.callS X1 hx (y := mnS) hown (mvT hZ (w0 hw)) (mvT hZ (w1 hw)) (mvT hZ (w2 hw)) (mvT hZ (w3 hw)) (by decide) (backOf (W := 0) (rm_mkfv l Z a0 hw []  h1 n0 (Nat.le_trans Z0 K1.1) ) hZ (w3 hw) (w2 hw) (by decide) (by decide)) (g := (mkF m 5 #[iv p0, iv p1, iv p2, iv p3, iv p4, rv fv_1, .unset, .unset, .unset, .unset, .unset, .unset] [])) rfl (by rw [hml]; rfl) (argsL := []) (rest := []) (lenOf pd_9 rfl) rfl (by show 2 * 0 + _ ≤ _; exact Nat.le_of_eq rfl) (hb hby at_5) (fun _ _ => ⟨rfl, e1, (by decide : 4 + 4 ≤ _), (by decide : 17 + 17 ≤ _)⟩)
  dsimp only [Pt.U, Pt.locs, Pt.cells, Pt.slots] at X3 lq3 yq3 zq3 st3 hQ3
  subst lq3 yq3 zq3
  obtain ⟨h3, e3⟩ : ∃ z, T3.heap = z := ⟨_, rfl⟩
  rw [e3] at hQ3
  obtain ⟨fv_3, fl_3, na_3, va_3, kn_3, kv_3, rfl, N3q, K3, gf3_0, lf3_0, gf3_1, lf3_1, gf3_2, lf3_2, gf3_3, lf3_3, nx3_4, p3_5, p3_6, p3_7, p3_8, p3_9, p3_10, p3_11, p3_12, p3_13, p3_14, p3_15, p3_16, ov3_17, ov3_18⟩ := hQ3
  have N3 := Fr.app N1 N3q
  have C4 : CHr Z consts_1 s.vm h0 s.vm h3 := CHr.trans C2 (CHr.keep K3 sf0 C2.1)
  refine go_st st3 ?_
  show Go _ _ _ _ (T3.setTop (mkF m 8 #[iv p0, iv p1, iv p2, iv p3, iv p4, rv fv_1, .unset, .unset, .unset, .unset, .unset, .unset] [(.ref fv_3)]))
  refine go_st (fun t k => XS.astore X3.here hx rfl (hb hby at_8) rfl rfl (l' := #[iv p0, iv p1, iv p2, iv p3, iv p4, rv fv_1, rv fv_3, .unset, .unset, .unset, .unset, .unset]) rfl k) ?_
  refine go_st (fun t k => XS.iloadN X3.here hx rfl (hb hby at_10) rfl k) ?_
  refine go_st (fun t k => XS.iloadN X3.here hx rfl (hb hby at_11) rfl k) ?_
  refine go_st (fun t k => XS.iloadN X3.here hx rfl (hb hby at_12) rfl k) ?_
  refine go_st (fun t k => XS.iloadN X3.here hx rfl (hb hby at_13) rfl k) ?_
  show Go _ _ _ _ (T3.setTop (mkF m 14 #[iv p0, iv p1, iv p2, iv p3, iv p4, rv fv_1, rv fv_3, .unset, .unset, .unset, .unset, .unset] [(.int p3), (.int p2), (.int p1), (.int p0)]))
  have oe5 : Old Z n0 h1 := (Old.keep O0 K1 all0)
  have oe6 : Old Z n0 h3 := (Old.keep oe5 K3 all0)
  have sz7 : h0.size ≤ h3.size := (Nat.le_trans K1.1 K3.1)
  obtain ⟨_, _, ⟨T8, L8, kk8, nn8⟩, -, X8, hs28, hg8, ⟨Lc8, hQ8, lq8, yq8, zq8, hC8⟩, st8⟩ := callSS X3 hx (y := (⟨"com/example/adjoinery/adjoinery/FeatureValueStructurePinLaw", "name", "(IIII)Ljava/lang/String;"⟩ : MethodName)) hown (mvT hZ (w33 hw)) (mvT hZ (w34 hw)) (mvT hZ (w35 hw)) (mvT hZ (w36 hw)) (by decide) (backOfSH (vm0 := s.vm) (W := 0) (rm_name l Z a0 hw [] p0 p1 p2 p3 G1 h3 n0 (Nat.le_trans Z0 sz7) CS CSn oe6) hZ (w36 hw) (w35 hw) (by decide) (by decide) (hEL hw) C4.1) (g := (mkF m 14 #[iv p0, iv p1, iv p2, iv p3, iv p4, rv fv_1, rv fv_3, .unset, .unset, .unset, .unset, .unset] [(.int p3), (.int p2), (.int p1), (.int p0)])) rfl (by rw [hml]; rfl) (argsL := [(.int p0), (.int p1), (.int p2), (.int p3)]) (rest := []) (lenOf pd_19 rfl) rfl (by show 2 * 0 + _ ≤ _; exact Nat.le_of_eq rfl) (hb hby at_14) (fun _ _ => ⟨rfl, e3, (by decide : 8 + 6 ≤ _), (by decide : 34 + 12 ≤ _)⟩)
  dsimp only [Pt.U, Pt.locs, Pt.cells, Pt.slots] at X8 hs28 hg8 lq8 yq8 zq8 st8 hQ8 hC8
  subst lq8 yq8 zq8
  rw [e3] at hg8
  obtain ⟨X8, hS8, hZ8, hown8⟩ := rebS (vm0 := s.vm) hS0 (Nat.le_trans hk0 sz7) X8 hs28 hg8 hZ hown
  obtain ⟨h8, e8⟩ : ∃ z, T8.heap = z := ⟨_, rfl⟩
  rw [e8] at hQ8 hg8 hC8 hS8
  obtain ⟨a_8, rfl, N8q, K8, gf8_0, lf8_0, p8_1⟩ := hQ8
  have N8 := Fr.app N3 N8q
  have C9 : CHr Z consts_1 s.vm h0 T8.vm h8 := CHr.trans C4 hC8
  refine go_tr st8 ?_
  show Go _ _ _ _ (T8.setTop (mkF m 17 #[iv p0, iv p1, iv p2, iv p3, iv p4, rv fv_1, rv fv_3, .unset, .unset, .unset, .unset, .unset] [(.ref a_8)]))
  refine go_st (fun t k => XS.astore X8.here hx rfl (hb hby at_17) rfl rfl (l' := #[iv p0, iv p1, iv p2, iv p3, iv p4, rv fv_1, rv fv_3, rv a_8, .unset, .unset, .unset, .unset]) rfl k) ?_
  refine go_st (fun t k => XS.iload X8.here hx rfl (hb hby at_19) rfl k) ?_
  refine go_st (fun t k => XS.sipush X8.here hx rfl (hb hby at_21) k) ?_
  refine go_st (fun t k => XS.iand X8.here hx rfl (hb hby at_24) rfl k) ?_
  refine go_st (fun t k => XS.i2c X8.here hx rfl (hb hby at_25) rfl k) ?_
  show Go _ _ _ _ (T8.setTop (mkF m 26 #[iv p0, iv p1, iv p2, iv p3, iv p4, rv fv_1, rv fv_3, rv a_8, .unset, .unset, .unset, .unset] [(.int (((p4 &&& (255 : Int32))).toUInt32.toUInt16.toUInt32.toInt32))]))
  have oe10 : Old Z n0 h8 := (Old.keep oe6 K8 all0)
  have sz11 : h0.size ≤ h8.size := (Nat.le_trans sz7 K8.1)
  obtain ⟨_, _, ⟨T12, L12, kk12, nn12⟩, -, X12, ⟨Lc12, hQ12, lq12, yq12, zq12⟩, st12⟩ := Jvm.LawKit.callS X8 hx (y := (⟨"java/lang/String", "valueOf", "(C)Ljava/lang/String;"⟩ : MethodName)) hown8 (mvT hZ8 (w57 hw)) (mvT hZ8 (w58 hw)) (mvT hZ8 (w39 hw)) (mvT hZ8 (w59 hw)) (by decide) (backOf (W := 0) (rm_vof l Z a0 hw [] (((p4 &&& (255 : Int32))).toUInt32.toUInt16.toUInt32.toInt32) G1 h8 n0 (Nat.le_trans Z0 sz11) (and255_c _).2 CS CSn oe10) hZ8 (w59 hw) (w39 hw) (by decide) (by decide)) (g := (mkF m 26 #[iv p0, iv p1, iv p2, iv p3, iv p4, rv fv_1, rv fv_3, rv a_8, .unset, .unset, .unset, .unset] [(.int (((p4 &&& (255 : Int32))).toUInt32.toUInt16.toUInt32.toInt32))])) rfl (by rw [hml]; rfl) (argsL := [(.int (((p4 &&& (255 : Int32))).toUInt32.toUInt16.toUInt32.toInt32))]) (rest := []) (lenOf pd_23 rfl) rfl (by show 2 * 0 + _ ≤ _; exact Nat.le_of_eq rfl) (hb hby at_26) (fun _ _ => ⟨rfl, e8, (by decide : 14 + 2 ≤ _), (by decide : 46 + 5 ≤ _)⟩)
  dsimp only [Pt.U, Pt.locs, Pt.cells, Pt.slots] at X12 lq12 yq12 zq12 st12 hQ12
  subst lq12 yq12 zq12
  obtain ⟨h12, e12⟩ : ∃ z, T12.heap = z := ⟨_, rfl⟩
  rw [e12] at hQ12
  obtain ⟨sa_12, ta_12, kt_12, rfl, N12q, K12, gf12_0, lf12_0, gf12_1, lf12_1, p12_2, p12_3, p12_4, p12_5⟩ := hQ12
  have N12 := Fr.app N8 N12q
  have C13 : CHr Z consts_1 s.vm h0 T8.vm h12 := CHr.trans C9 (CHr.keep K12 sf0 C9.1)
  refine go_st st12 ?_
  show Go _ _ _ _ (T12.setTop (mkF m 29 #[iv p0, iv p1, iv p2, iv p3, iv p4, rv fv_1, rv fv_3, rv a_8, .unset, .unset, .unset, .unset] [(.ref sa_12)]))
  have sf14 : Safe Z consts_1 T8.vm h12 sa_12 := Safe.keep K12 sf0 C9.1 (Safe.new lf12_0)
  have sf15 : Safe Z consts_1 T8.vm h12 ta_12 := Safe.keep K12 sf0 C9.1 (Safe.new lf12_1)
  have sz16 : h0.size ≤ h12.size := (Nat.le_trans sz11 K12.1)
  obtain ⟨_, _, ⟨T17, L17, kk17, nn17⟩, -, X17, hs217, hg17, ⟨Lc17, hQ17, lq17, yq17, zq17, hC17⟩, st17⟩ := callSS X12 hx (y := (⟨"com/example/adjoinery/adjoinery/FeatureValue", "atom", "(Ljava/lang/String;)Lcom/example/adjoinery/adjoinery/FeatureValue;"⟩ : MethodName)) hown8 (mvT hZ8 (w72 hw)) (mvT hZ8 (w73 hw)) (mvT hZ8 (w2 hw)) (mvT hZ8 (w74 hw)) (by decide) (backOfSH (vm0 := T8.vm) (W := 0) (rm_atomof l Z a0 hw [] sa_12 h12 n0 (Nat.le_trans Z0 sz16) ) hZ8 (w74 hw) (w2 hw) (by decide) (by decide) (hEL hw) C13.1) (g := (mkF m 29 #[iv p0, iv p1, iv p2, iv p3, iv p4, rv fv_1, rv fv_3, rv a_8, .unset, .unset, .unset, .unset] [(.ref sa_12)])) rfl (by rw [hml]; rfl) (argsL := [(.ref sa_12)]) (rest := []) (lenOf pd_12 rfl) rfl (by show 2 * 0 + _ ≤ _; exact Nat.le_of_eq rfl) (hb hby at_29) (fun _ _ => ⟨rfl, e12, (by decide : 16 + 3 ≤ _), (by decide : 51 + 25 ≤ _)⟩)
  dsimp only [Pt.U, Pt.locs, Pt.cells, Pt.slots] at X17 hs217 hg17 lq17 yq17 zq17 st17 hQ17 hC17
  subst lq17 yq17 zq17
  rw [e12] at hg17
  obtain ⟨X17, hS17, hZ17, hown17⟩ := rebS (vm0 := T8.vm) hS8 (Nat.le_trans (Nat.le_refl _) K12.1) X17 hs217 hg17 hZ8 hown8
  obtain ⟨h17, e17⟩ : ∃ z, T17.heap = z := ⟨_, rfl⟩
  rw [e17] at hQ17 hg17 hC17 hS17
  obtain ⟨fv_17, rfl, N17q, K17, gf17_0, lf17_0, p17_1, p17_2, p17_3, p17_4, p17_5⟩ := hQ17
  have N17 := Fr.app N12 N17q
  have C18 : CHr Z consts_1 s.vm h0 T17.vm h17 := CHr.trans C13 hC17
  refine go_tr st17 ?_
  show Go _ _ _ _ (T17.setTop (mkF m 32 #[iv p0, iv p1, iv p2, iv p3, iv p4, rv fv_1, rv fv_3, rv a_8, .unset, .unset, .unset, .unset] [(.ref fv_17)]))
  refine go_st (fun t k => XS.astore X17.here hx rfl (hb hby at_32) rfl rfl (l' := #[iv p0, iv p1, iv p2, iv p3, iv p4, rv fv_1, rv fv_3, rv a_8, rv fv_17, .unset, .unset, .unset]) rfl k) ?_
  refine go_st (fun t k => XS.aload X17.here hx rfl (hb hby at_34) rfl rfl k) ?_
  show Go _ _ _ _ (T17.setTop (mkF m 36 #[iv p0, iv p1, iv p2, iv p3, iv p4, rv fv_1, rv fv_3, rv a_8, rv fv_17, .unset, .unset, .unset] [(.ref fv_1)]))
  have f19 : Exa Z h17 fv_1 cFV := ((((p1_5.keep K3).keep K8).keep K12).keep K17)
  have f20 : Fld Z h17 fv_1 cFV "atom" "Ljava/lang/String;" .null := ((((p1_6.keep K3 nin0).keep K8 nin0).keep K12 nin0).keep K17 nin0)
  have f21 : Fld Z h17 fv_1 cFV "alternatives" "Ljava/util/Set;" .null := ((((p1_7.keep K3 nin0).keep K8 nin0).keep K12 nin0).keep K17 nin0)
  have f22 : Fld Z h17 fv_1 cFV "features" "Lcom/example/adjoinery/adjoinery/FeatureList;" (.ref fl_1) := ((((p1_8.keep K3 nin0).keep K8 nin0).keep K12 nin0).keep K17 nin0)
  have f23 : Fld Z h17 fv_1 cFV "forward" "Lcom/example/adjoinery/adjoinery/FeatureValue;" .null := ((((p1_9.keep K3 nin0).keep K8 nin0).keep K12 nin0).keep K17 nin0)
  have sz24 : h0.size ≤ h17.size := (Nat.le_trans sz16 K17.1)
  obtain ⟨cq25, kq25, q25a, q25b, q25c⟩ := isOf hZ17 e17 f19
  obtain ⟨_, _, ⟨T25, L25, kk25, nn25⟩, -, X25, ⟨Lc25, hQ25, lq25, yq25, zq25⟩, st25⟩ := X17.virtualBack hx (y := (⟨"com/example/adjoinery/adjoinery/FeatureValue", "isStructure", "()Z"⟩ : MethodName)) (z := (⟨"com/example/adjoinery/adjoinery/FeatureValue", "isStructure", "()Z"⟩ : MethodName)) hown17 (mvT hZ17 (w80 hw)) (mvT hZ17 (w81 hw)) (notFace_of_selects (args := #[]) (mvT hZ17 (w83 hw))) (mvT hZ17 (w83 hw)) (mvT hZ17 (w82 hw)) (by decide) (backOf (W := 0) (rm_get_isStructure l Z a0 hw [] fv_1 fl_1 h17 n0 (Nat.le_trans Z0 sz24) f19 f20 f21 f22 f23) hZ17 (w84 hw) (w2 hw) (by decide) (by decide)) q25a q25c (g := (mkF m 36 #[iv p0, iv p1, iv p2, iv p3, iv p4, rv fv_1, rv fv_3, rv a_8, rv fv_17, .unset, .unset, .unset] [(.ref fv_1)])) rfl (by rw [hml]; rfl) (Steps.refl _) (argsL := []) (rest := []) (lenOf pd_10 rfl) rfl (by show 2 * 0 + _ ≤ _; exact Nat.le_of_eq rfl) (hb hby at_36) (fun _ _ => ⟨rfl, e17, (by decide : 19 + 0 ≤ _), (by decide : 76 + 0 ≤ _)⟩)
  dsimp only [Pt.U, Pt.locs, Pt.cells, Pt.slots] at X25 lq25 yq25 zq25 st25 hQ25
  subst lq25 yq25 zq25
  obtain ⟨h25, e25⟩ : ∃ z, T25.heap = z := ⟨_, rfl⟩
  rw [e25] at hQ25
  obtain ⟨rfl, N25q, he25⟩ := hQ25
  have N25 := Fr.app N17 N25q
  rw [he25] at e25
  refine go_tr st25 ?_
  show Go _ _ _ _ (T25.setTop (mkF m 39 #[iv p0, iv p1, iv p2, iv p3, iv p4, rv fv_1, rv fv_3, rv a_8, rv fv_17, .unset, .unset, .unset] [(.int 1)]))
  refine go_st (fun t k => XS.ifNo X25.here hx rfl (hb hby at_39) rfl ((if0 _ _).trans (feq ((by decide) : ¬ ((1 : Int32) = (0 : Int32)))).1) k) ?_
  show Go _ _ _ _ (T25.setTop (mkF m 42 #[iv p0, iv p1, iv p2, iv p3, iv p4, rv fv_1, rv fv_3, rv a_8, rv fv_17, .unset, .unset, .unset] []))
  refine go_st (fun t k => XS.aload X25.here hx rfl (hb hby at_42) rfl rfl k) ?_
  show Go _ _ _ _ (T25.setTop (mkF m 44 #[iv p0, iv p1, iv p2, iv p3, iv p4, rv fv_1, rv fv_3, rv a_8, rv fv_17, .unset, .unset, .unset] [(.ref fv_1)]))
  obtain ⟨cq26, kq26, q26a, q26b, q26c⟩ := isOf hZ17 e25 f19
  obtain ⟨_, _, ⟨T26, L26, kk26, nn26⟩, -, X26, ⟨Lc26, hQ26, lq26, yq26, zq26⟩, st26⟩ := X25.virtualBack hx (y := (⟨"com/example/adjoinery/adjoinery/FeatureValue", "isUnbound", "()Z"⟩ : MethodName)) (z := (⟨"com/example/adjoinery/adjoinery/FeatureValue", "isUnbound", "()Z"⟩ : MethodName)) hown17 (mvT hZ17 (w92 hw)) (mvT hZ17 (w93 hw)) (nf_same (y := (⟨"com/example/adjoinery/adjoinery/FeatureValue", "isUnbound", "()Z"⟩ : MethodName)) (y' := (⟨"com/example/adjoinery/adjoinery/FeatureValue", "isStructure", "()Z"⟩ : MethodName)) (a0 := #[]) rfl (mvT hZ17 (w82 hw)) (notFace_of_selects (args := #[]) (mvT hZ17 (w83 hw)))) (mvT hZ17 (w95 hw)) (mvT hZ17 (w94 hw)) (by decide) (backOf (W := 0) (rm_get_isUnbound l Z a0 hw [] fv_1 fl_1 h17 n0 (Nat.le_trans Z0 sz24) f19 f20 f21 f22 f23) hZ17 (w96 hw) (w2 hw) (by decide) (by decide)) q26a q26c (g := (mkF m 44 #[iv p0, iv p1, iv p2, iv p3, iv p4, rv fv_1, rv fv_3, rv a_8, rv fv_17, .unset, .unset, .unset] [(.ref fv_1)])) rfl (by rw [hml]; rfl) (Steps.refl _) (argsL := []) (rest := []) (lenOf pd_10 rfl) rfl (by show 2 * 0 + _ ≤ _; exact Nat.le_of_eq rfl) (hb hby at_44) (fun _ _ => ⟨rfl, e25, (by decide : 19 + 0 ≤ _), (by decide : 76 + 0 ≤ _)⟩)
  dsimp only [Pt.U, Pt.locs, Pt.cells, Pt.slots] at X26 lq26 yq26 zq26 st26 hQ26
  subst lq26 yq26 zq26
  obtain ⟨h26, e26⟩ : ∃ z, T26.heap = z := ⟨_, rfl⟩
  rw [e26] at hQ26
  obtain ⟨rfl, N26q, he26⟩ := hQ26
  have N26 := Fr.app N25 N26q
  rw [he26] at e26
  refine go_tr st26 ?_
  show Go _ _ _ _ (T26.setTop (mkF m 47 #[iv p0, iv p1, iv p2, iv p3, iv p4, rv fv_1, rv fv_3, rv a_8, rv fv_17, .unset, .unset, .unset] [(.int 0)]))
  refine go_st (fun t k => XS.ifNo X26.here hx rfl (hb hby at_47) rfl ((if0 _ _).trans (teq ((by decide) : (0 : Int32) = (0 : Int32))).2) k) ?_
  show Go _ _ _ _ (T26.setTop (mkF m 50 #[iv p0, iv p1, iv p2, iv p3, iv p4, rv fv_1, rv fv_3, rv a_8, rv fv_17, .unset, .unset, .unset] []))
  refine go_st (fun t k => XS.aload X26.here hx rfl (hb hby at_50) rfl rfl k) ?_
  show Go _ _ _ _ (T26.setTop (mkF m 52 #[iv p0, iv p1, iv p2, iv p3, iv p4, rv fv_1, rv fv_3, rv a_8, rv fv_17, .unset, .unset, .unset] [(.ref fv_1)]))
  obtain ⟨cq27, kq27, q27a, q27b, q27c⟩ := isOf hZ17 e26 f19
  obtain ⟨_, _, ⟨T27, L27, kk27, nn27⟩, -, X27, ⟨Lc27, hQ27, lq27, yq27, zq27⟩, st27⟩ := X26.virtualBack hx (y := (⟨"com/example/adjoinery/adjoinery/FeatureValue", "atom", "()Ljava/lang/String;"⟩ : MethodName)) (z := (⟨"com/example/adjoinery/adjoinery/FeatureValue", "atom", "()Ljava/lang/String;"⟩ : MethodName)) hown17 (mvT hZ17 (w101 hw)) (mvT hZ17 (w102 hw)) (nf_same (y := (⟨"com/example/adjoinery/adjoinery/FeatureValue", "atom", "()Ljava/lang/String;"⟩ : MethodName)) (y' := (⟨"com/example/adjoinery/adjoinery/FeatureValue", "isStructure", "()Z"⟩ : MethodName)) (a0 := #[]) rfl (mvT hZ17 (w82 hw)) (notFace_of_selects (args := #[]) (mvT hZ17 (w83 hw)))) (mvT hZ17 (w104 hw)) (mvT hZ17 (w103 hw)) (by decide) (backOf (W := 0) (rm_get_atom l Z a0 hw [] fv_1 fl_1 h17 n0 (Nat.le_trans Z0 sz24) f19 f20 f21 f22 f23) hZ17 (w105 hw) (w2 hw) (by decide) (by decide)) q27a q27c (g := (mkF m 52 #[iv p0, iv p1, iv p2, iv p3, iv p4, rv fv_1, rv fv_3, rv a_8, rv fv_17, .unset, .unset, .unset] [(.ref fv_1)])) rfl (by rw [hml]; rfl) (Steps.refl _) (argsL := []) (rest := []) (lenOf pd_24 rfl) rfl (by show 2 * 0 + _ ≤ _; exact Nat.le_of_eq rfl) (hb hby at_52) (fun _ _ => ⟨rfl, e26, (by decide : 19 + 0 ≤ _), (by decide : 76 + 0 ≤ _)⟩)
  dsimp only [Pt.U, Pt.locs, Pt.cells, Pt.slots] at X27 lq27 yq27 zq27 st27 hQ27
  subst lq27 yq27 zq27
  obtain ⟨h27, e27⟩ : ∃ z, T27.heap = z := ⟨_, rfl⟩
  rw [e27] at hQ27
  obtain ⟨rfl, N27q, he27⟩ := hQ27
  have N27 := Fr.app N26 N27q
  rw [he27] at e27
  refine go_tr st27 ?_
  show Go _ _ _ _ (T27.setTop (mkF m 55 #[iv p0, iv p1, iv p2, iv p3, iv p4, rv fv_1, rv fv_3, rv a_8, rv fv_17, .unset, .unset, .unset] [.null]))
  refine go_st (fun t k => XS.ifnonnullNo X27.here hx rfl (hb hby at_55) rfl k) ?_
  show Go _ _ _ _ (T27.setTop (mkF m 58 #[iv p0, iv p1, iv p2, iv p3, iv p4, rv fv_1, rv fv_3, rv a_8, rv fv_17, .unset, .unset, .unset] []))
  refine go_st (fun t k => XS.aload X27.here hx rfl (hb hby at_58) rfl rfl k) ?_
  refine go_st (fun t k => XS.aload X27.here hx rfl (hb hby at_60) rfl rfl k) ?_
  show Go _ _ _ _ (T27.setTop (mkF m 62 #[iv p0, iv p1, iv p2, iv p3, iv p4, rv fv_1, rv fv_3, rv a_8, rv fv_17, .unset, .unset, .unset] [(.ref a_8), (.ref fv_1)]))
  have f28 : Exa Z h17 fl_1 cFL := ((((p1_10.keep K3).keep K8).keep K12).keep K17)
  have f29 : Fld Z h17 fl_1 cFL "names" "[Ljava/lang/String;" (.ref na_1) := ((((p1_11.keep K3 nin0).keep K8 nin0).keep K12 nin0).keep K17 nin0)
  have f30 : Fld Z h17 fl_1 cFL "values" "[Lcom/example/adjoinery/adjoinery/FeatureValue;" (.ref va_1) := ((((p1_12.keep K3 nin0).keep K8 nin0).keep K12 nin0).keep K17 nin0)
  have f31 : Fld Z h17 fl_1 cFL "positions" "Ljava/util/Map;" .null := ((((p1_13.keep K3 nin0).keep K8 nin0).keep K12 nin0).keep K17 nin0)
  have f32 : Fld Z h17 fl_1 cFL "size" "I" (.int 0) := ((((p1_14.keep K3 nin0).keep K8 nin0).keep K12 nin0).keep K17 nin0)
  have f33 : Arv Z h17 na_1 kn_1 (.object "java/lang/String") (4 : Int32) [.null, .null, .null, .null] .null := ((((p1_15.keep K3 nin0).keep K8 nin0).keep K12 nin0).keep K17 nin0)
  have f34 : Arv Z h17 va_1 kv_1 (.object "com/example/adjoinery/adjoinery/FeatureValue") (4 : Int32) [.null, .null, .null, .null] .null := ((((p1_16.keep K3 nin0).keep K8 nin0).keep K12 nin0).keep K17 nin0)
  obtain ⟨cq35, kq35, q35a, q35b, q35c⟩ := isOf hZ17 e27 f19
  obtain ⟨_, _, ⟨T35, L35, kk35, nn35⟩, -, X35, ⟨Lc35, hQ35, lq35, yq35, zq35⟩, st35⟩ := X27.virtualBack hx (y := (⟨"com/example/adjoinery/adjoinery/FeatureValue", "feature", "(Ljava/lang/String;)Lcom/example/adjoinery/adjoinery/FeatureValue;"⟩ : MethodName)) (z := (⟨"com/example/adjoinery/adjoinery/FeatureValue", "feature", "(Ljava/lang/String;)Lcom/example/adjoinery/adjoinery/FeatureValue;"⟩ : MethodName)) hown17 (mvT hZ17 (w106 hw)) (mvT hZ17 (w107 hw)) (nf_same (y := (⟨"com/example/adjoinery/adjoinery/FeatureValue", "feature", "(Ljava/lang/String;)Lcom/example/adjoinery/adjoinery/FeatureValue;"⟩ : MethodName)) (y' := (⟨"com/example/adjoinery/adjoinery/FeatureValue", "isStructure", "()Z"⟩ : MethodName)) (a0 := #[]) rfl (mvT hZ17 (w82 hw)) (notFace_of_selects (args := #[]) (mvT hZ17 (w83 hw)))) (mvT hZ17 (w109 hw)) (mvT hZ17 (w108 hw)) (by decide) (backOf (W := 0) (rm_feat0 l Z a0 hw [] fv_1 fl_1 na_1 va_1 kn_1 kv_1 a_8 h17 n0 (Nat.le_trans Z0 sz24) f19 f20 f21 f22 f23 f28 f29 f30 f31 f32 f33 f34) hZ17 (w110 hw) (w2 hw) (by decide) (by decide)) q35a q35c (g := (mkF m 62 #[iv p0, iv p1, iv p2, iv p3, iv p4, rv fv_1, rv fv_3, rv a_8, rv fv_17, .unset, .unset, .unset] [(.ref a_8), (.ref fv_1)])) rfl (by rw [hml]; rfl) (Steps.refl _) (argsL := [(.ref a_8)]) (rest := []) (lenOf pd_12 rfl) rfl (by show 2 * 0 + _ ≤ _; exact Nat.le_of_eq rfl) (hb hby at_62) (fun _ _ => ⟨rfl, e27, (by decide : 19 + 0 ≤ _), (by decide : 76 + 0 ≤ _)⟩)
  dsimp only [Pt.U, Pt.locs, Pt.cells, Pt.slots] at X35 lq35 yq35 zq35 st35 hQ35
  subst lq35 yq35 zq35
  obtain ⟨h35, e35⟩ : ∃ z, T35.heap = z := ⟨_, rfl⟩
  rw [e35] at hQ35
  obtain ⟨rfl, N35q, he35⟩ := hQ35
  have N35 := Fr.app N27 N35q
  rw [he35] at e35
  refine go_tr st35 ?_
  show Go _ _ _ _ (T35.setTop (mkF m 65 #[iv p0, iv p1, iv p2, iv p3, iv p4, rv fv_1, rv fv_3, rv a_8, rv fv_17, .unset, .unset, .unset] [.null]))
  refine go_st (fun t k => XS.ifnonnullNo X35.here hx rfl (hb hby at_65) rfl k) ?_
  show Go _ _ _ _ (T35.setTop (mkF m 68 #[iv p0, iv p1, iv p2, iv p3, iv p4, rv fv_1, rv fv_3, rv a_8, rv fv_17, .unset, .unset, .unset] []))
  refine go_st (fun t k => XS.aload X35.here hx rfl (hb hby at_68) rfl rfl k) ?_
  refine go_st (fun t k => XS.aload X35.here hx rfl (hb hby at_70) rfl rfl k) ?_
  show Go _ _ _ _ (T35.setTop (mkF m 72 #[iv p0, iv p1, iv p2, iv p3, iv p4, rv fv_1, rv fv_3, rv a_8, rv fv_17, .unset, .unset, .unset] [(.ref fv_3), (.ref fv_1)]))
  have nq36 : fv_1 ≠ fv_3 := Nat.ne_of_lt (Nat.lt_of_lt_of_le (Nat.lt_of_lt_of_le p1_5.lt (Nat.le_refl _)) lf3_0)
  refine go_st (fun t k => Jvm.RoadKit.acmp (g := (mkF m 72 #[iv p0, iv p1, iv p2, iv p3, iv p4, rv fv_1, rv fv_3, rv a_8, rv fv_17, .unset, .unset, .unset] [(.ref fv_3), (.ref fv_1)])) X35 hx rfl rfl rfl (pc0 := 72) (pc' := 75) (same := false) rfl (hb hby at_72) rfl (decide_eq_false (fun q => nq36 (Value.ref.inj q))) (by decide) (by decide) k) ?_
  show Go _ _ _ _ (T35.setTop (mkF m 75 #[iv p0, iv p1, iv p2, iv p3, iv p4, rv fv_1, rv fv_3, rv a_8, rv fv_17, .unset, .unset, .unset] []))
  refine go_st (fun t k => XS.iconst X35.here hx rfl (hb hby at_75) k) ?_
  refine go_st (fun t k => XS.goto X35.here hx rfl (pc0 := 76) (pc' := 80) rfl (hb hby at_76) (by decide) (by decide) k) ?_
  show Go _ _ _ _ (T35.setTop (mkF m 80 #[iv p0, iv p1, iv p2, iv p3, iv p4, rv fv_1, rv fv_3, rv a_8, rv fv_17, .unset, .unset, .unset] [(.int 1)]))
  refine go_st (fun t k => XS.istore X35.here hx rfl (hb hby at_80) rfl (l' := #[iv p0, iv p1, iv p2, iv p3, iv p4, rv fv_1, rv fv_3, rv a_8, rv fv_17, iv 1, .unset, .unset]) rfl k) ?_
  show Go _ _ _ _ (T35.setTop (mkF m 82 #[iv p0, iv p1, iv p2, iv p3, iv p4, rv fv_1, rv fv_3, rv a_8, rv fv_17, iv 1, .unset, .unset] []))
  obtain ⟨T37, h37, X37, e37, E37, A37, D37, -, st37⟩ := newO X35 hx hZ17 hown17 (w124 hw) (w125 hw) (w126 hw) e35 (g := (mkF m 82 #[iv p0, iv p1, iv p2, iv p3, iv p4, rv fv_1, rv fv_3, rv a_8, rv fv_17, iv 1, .unset, .unset] [])) rfl (hb hby at_82) (by decide) (by decide)
  obtain ⟨b37, gq37⟩ : ∃ z, z = h17.size := ⟨_, rfl⟩
  rw [← gq37] at A37 D37 st37
  have C38 : CHr Z consts_1 s.vm h0 T17.vm h37 := CHr.trans C18 (CHr.ext E37 C18.1)
  have f39 : Fld Z h37 b37 cTR "undos" "Ljava/util/List;" .null := D37 (Or.inr (w156 hw)) (ty := (.object "java/util/List")) (by decide)
  have f40 : Fld Z h37 b37 cTR "changed" "Ljava/util/List;" .null := D37 (Or.inr (w158 hw)) (ty := (.object "java/util/List")) (by decide)
  have f41 : Fld Z h37 b37 cTR "workStack" "Ljava/util/Deque;" .null := D37 (Or.inr (w172 hw)) (ty := (.object "java/util/Deque")) (by decide)
  refine go_st (fun t k => st37 t k) ?_
  refine go_st (fun t k => XS.dup X37.here hx rfl (hb hby at_85) rfl rfl k) ?_
  show Go _ _ _ _ (T37.setTop (mkF m 86 #[iv p0, iv p1, iv p2, iv p3, iv p4, rv fv_1, rv fv_3, rv a_8, rv fv_17, iv 1, .unset, .unset] [(.ref b37), (.ref b37)]))
  have g_b37 : n0 ≤ b37 := Nat.le_trans (Nat.le_trans Z0 sz24) (Nat.le_of_eq gq37.symm)
  have oe42 : Old Z n0 h12 := (Old.keep oe10 K12 all0)
  have oe43 : Old Z n0 h17 := (Old.keep oe42 K17 all0)
  have oe44 : Old Z n0 h37 := (Old.ext oe43 E37)
  have sz45 : h0.size ≤ h37.size := (Nat.le_trans sz24 E37.1)
  obtain ⟨_, _, ⟨T46, L46, kk46, nn46⟩, -, X46, ⟨Lc46, hQ46, lq46, yq46, zq46⟩, st46⟩ := X37.specialBack hx (y := (⟨"com/example/adjoinery/adjoinery/Trail", "<init>", "()V"⟩ : MethodName)) rfl hown17 (mvT hZ17 (w127 hw)) (mvT hZ17 (w128 hw)) (mvT hZ17 (w129 hw)) (by decide) (backOf (W := 1) (rm_trinit l Z a0 hw [] b37 de h37 n0 (Nat.le_trans Z0 sz45) A37 f39 f40 f41 g_b37 DES zl_de oe44) hZ17 (w129 hw) (w126 hw) (by decide) (by decide)) (g := (mkF m 86 #[iv p0, iv p1, iv p2, iv p3, iv p4, rv fv_1, rv fv_3, rv a_8, rv fv_17, iv 1, .unset, .unset] [(.ref b37), (.ref b37)])) rfl (by rw [hml]; rfl) (Steps.refl _) (a := b37) (argsL := []) (rest := [(.ref b37)]) (lenOf pd_1 rfl) rfl (by show 2 * 0 + _ ≤ _; exact Nat.le_of_eq rfl) (hb hby at_86) (fun _ _ => ⟨rfl, e37, (by decide : 20 + 4 ≤ _), (by decide : 79 + 26 ≤ _)⟩)
  dsimp only [Pt.U, Pt.locs, Pt.cells, Pt.slots] at X46 lq46 yq46 zq46 st46 hQ46
  subst lq46 yq46 zq46
  obtain ⟨h46, e46⟩ : ∃ z, T46.heap = z := ⟨_, rfl⟩
  rw [e46] at hQ46
  obtain ⟨lu_46, lc_46, dq_46, rfl, N46q, K46, gf46_0, lf46_0, gf46_1, lf46_1, nx46_2, p46_3, p46_4, p46_5, p46_6, p46_7, p46_8, p46_9, p46_10, p46_11, p46_12, p46_13, p46_14⟩ := hQ46
  have N46 := Fr.app N35 N46q
  have C47 : CHr Z consts_1 s.vm h0 T17.vm h46 := CHr.trans C38 (CHr.keep K46 (sfS (Safe.exa hZ17.alike A37 (by decide) (by decide)) sf0) C38.1)
  refine go_tr st46 ?_
  show Go _ _ _ _ (T46.setTop (mkF m 89 #[iv p0, iv p1, iv p2, iv p3, iv p4, rv fv_1, rv fv_3, rv a_8, rv fv_17, iv 1, .unset, .unset] [(.ref b37)]))
  refine go_st (fun t k => XS.astore X46.here hx rfl (hb hby at_89) rfl rfl (l' := #[iv p0, iv p1, iv p2, iv p3, iv p4, rv fv_1, rv fv_3, rv a_8, rv fv_17, iv 1, rv b37, .unset]) rfl k) ?_
  refine go_st (fun t k => XS.aload X46.here hx rfl (hb hby at_91) rfl rfl k) ?_
  refine go_st (fun t k => XS.aload X46.here hx rfl (hb hby at_93) rfl rfl k) ?_
  refine go_st (fun t k => XS.aload X46.here hx rfl (hb hby at_95) rfl rfl k) ?_
  refine go_st (fun t k => XS.aload X46.here hx rfl (hb hby at_97) rfl rfl k) ?_
  show Go _ _ _ _ (T46.setTop (mkF m 99 #[iv p0, iv p1, iv p2, iv p3, iv p4, rv fv_1, rv fv_3, rv a_8, rv fv_17, iv 1, rv b37, .unset] [(.ref b37), (.ref fv_17), (.ref a_8), (.ref fv_1)]))
  have f48 : Exa Z h46 fv_1 cFV := ((f19.ext E37).keep K46)
  have sz49 : h1.size ≤ h8.size := (Nat.le_trans K3.1 K8.1)
  have sz50 : h1.size ≤ h12.size := (Nat.le_trans sz49 K12.1)
  have sz51 : h1.size ≤ h17.size := (Nat.le_trans sz50 K17.1)
  have nq52 : fv_1 ≠ b37 := Nat.ne_of_lt (Nat.lt_of_lt_of_le (Nat.lt_of_lt_of_le p1_5.lt sz51) (Nat.le_of_eq gq37.symm))
  have f53 : Fld Z h46 fv_1 cFV "atom" "Ljava/lang/String;" .null := ((f20.ext E37).keep K46 (ninS nq52 nin0))
  have f54 : Fld Z h46 fv_1 cFV "alternatives" "Ljava/util/Set;" .null := ((f21.ext E37).keep K46 (ninS nq52 nin0))
  have f55 : Fld Z h46 fv_1 cFV "features" "Lcom/example/adjoinery/adjoinery/FeatureList;" (.ref fl_1) := ((f22.ext E37).keep K46 (ninS nq52 nin0))
  have f56 : Fld Z h46 fv_1 cFV "forward" "Lcom/example/adjoinery/adjoinery/FeatureValue;" .null := ((f23.ext E37).keep K46 (ninS nq52 nin0))
  have f57 : Exa Z h46 fl_1 cFL := ((f28.ext E37).keep K46)
  have nq58 : fl_1 ≠ b37 := Nat.ne_of_lt (Nat.lt_of_lt_of_le (Nat.lt_of_lt_of_le p1_10.lt sz51) (Nat.le_of_eq gq37.symm))
  have f59 : Fld Z h46 fl_1 cFL "names" "[Ljava/lang/String;" (.ref na_1) := ((f29.ext E37).keep K46 (ninS nq58 nin0))
  have f60 : Fld Z h46 fl_1 cFL "values" "[Lcom/example/adjoinery/adjoinery/FeatureValue;" (.ref va_1) := ((f30.ext E37).keep K46 (ninS nq58 nin0))
  have f61 : Fld Z h46 fl_1 cFL "positions" "Ljava/util/Map;" .null := ((f31.ext E37).keep K46 (ninS nq58 nin0))
  have f62 : Fld Z h46 fl_1 cFL "size" "I" (.int 0) := ((f32.ext E37).keep K46 (ninS nq58 nin0))
  have nq63 : na_1 ≠ b37 := Nat.ne_of_lt (Nat.lt_of_lt_of_le (Nat.lt_of_lt_of_le p1_15.lt sz51) (Nat.le_of_eq gq37.symm))
  have f64 : Arv Z h46 na_1 kn_1 (.object "java/lang/String") (4 : Int32) [.null, .null, .null, .null] .null := ((f33.ext E37).keep K46 (ninS nq63 nin0))
  have nq65 : va_1 ≠ b37 := Nat.ne_of_lt (Nat.lt_of_lt_of_le (Nat.lt_of_lt_of_le p1_16.lt sz51) (Nat.le_of_eq gq37.symm))
  have f66 : Arv Z h46 va_1 kv_1 (.object "com/example/adjoinery/adjoinery/FeatureValue") (4 : Int32) [.null, .null, .null, .null] .null := ((f34.ext E37).keep K46 (ninS nq65 nin0))
  have f67 : Exa Z h46 a_8 cST := ((((p8_1.keep K12).keep K17).ext E37).keep K46)
  have f68 : Exa Z h46 fv_17 cFV := ((p17_1.ext E37).keep K46)
  have nq69 : de ≠ b37 := Old.ne O0 zl_de g_b37
  have f70 : Arv Z h46 de kd (.object "java/lang/Object") (0 : Int32) [] .null := (((((((H4.keep K1 nin0).keep K3 nin0).keep K8 nin0).keep K12 nin0).keep K17 nin0).ext E37).keep K46 (ninS nq69 nin0))
  have oe71 : Old Z n0 h46 := (Old.keep oe44 K46 (allS g_b37 all0))
  have sz72 : h0.size ≤ h46.size := (Nat.le_trans sz45 K46.1)
  obtain ⟨cq73, kq73, q73a, q73b, q73c⟩ := isOf hZ17 e46 f48
  obtain ⟨_, _, ⟨T73, L73, kk73, nn73⟩, -, X73, ⟨Lc73, hQ73, lq73, yq73, zq73⟩, st73⟩ := X46.virtualBack hx (y := (⟨"com/example/adjoinery/adjoinery/FeatureValue", "addFeature", "(Ljava/lang/String;Lcom/example/adjoinery/adjoinery/FeatureValue;Lcom/example/adjoinery/adjoinery/Trail;)Z"⟩ : MethodName)) (z := (⟨"com/example/adjoinery/adjoinery/FeatureValue", "addFeature", "(Ljava/lang/String;Lcom/example/adjoinery/adjoinery/FeatureValue;Lcom/example/adjoinery/adjoinery/Trail;)Z"⟩ : MethodName)) hown17 (mvT hZ17 (w173 hw)) (mvT hZ17 (w174 hw)) (nf_same (y := (⟨"com/example/adjoinery/adjoinery/FeatureValue", "addFeature", "(Ljava/lang/String;Lcom/example/adjoinery/adjoinery/FeatureValue;Lcom/example/adjoinery/adjoinery/Trail;)Z"⟩ : MethodName)) (y' := (⟨"com/example/adjoinery/adjoinery/FeatureValue", "isStructure", "()Z"⟩ : MethodName)) (a0 := #[]) rfl (mvT hZ17 (w82 hw)) (notFace_of_selects (args := #[]) (mvT hZ17 (w83 hw)))) (mvT hZ17 (w176 hw)) (mvT hZ17 (w175 hw)) (by decide) (backOf (W := 0) (rm_addf l Z a0 hw [] fv_1 fl_1 na_1 va_1 kn_1 kv_1 a_8 fv_17 b37 lu_46 lc_46 de kd h46 n0 (Nat.le_trans Z0 sz72) f48 f53 f54 f55 f56 f57 f59 f60 f61 f62 f64 f66 f67 f68 ov1_17 ov1_18 gf1_1 gf1_2 gf1_3 nx1_4 p46_3 p46_4 p46_5 p46_7 p46_8 p46_9 p46_10 p46_11 p46_12 p46_13 p46_14 gf46_0 gf46_1 nx46_2 f70 DES zl_de oe71) hZ17 (w177 hw) (w2 hw) (by decide) (by decide)) q73a q73c (g := (mkF m 99 #[iv p0, iv p1, iv p2, iv p3, iv p4, rv fv_1, rv fv_3, rv a_8, rv fv_17, iv 1, rv b37, .unset] [(.ref b37), (.ref fv_17), (.ref a_8), (.ref fv_1)])) rfl (by rw [hml]; rfl) (Steps.refl _) (argsL := [(.ref a_8), (.ref fv_17), (.ref b37)]) (rest := []) (lenOf pd_25 rfl) rfl (by show 2 * 0 + _ ≤ _; exact Nat.le_of_eq rfl) (hb hby at_99) (fun _ _ => ⟨rfl, e46, (by decide : 24 + 3 ≤ _), (by decide : 105 + 21 ≤ _)⟩)
  dsimp only [Pt.U, Pt.locs, Pt.cells, Pt.slots] at X73 lq73 yq73 zq73 st73 hQ73
  subst lq73 yq73 zq73
  obtain ⟨h73, e73⟩ : ∃ z, T73.heap = z := ⟨_, rfl⟩
  rw [e73] at hQ73
  obtain ⟨rfl, N73q, K73, p73_0, p73_1, p73_2, p73_3, p73_4, p73_5, p73_6⟩ := hQ73
  have N73 := Fr.app N46 N73q
  have C74 : CHr Z consts_1 s.vm h0 T17.vm h73 := CHr.trans C47 (CHr.keep K73 (sfS (Safe.arv hZ17.alike f64 (by decide)) (sfS (Safe.arv hZ17.alike f66 (by decide)) (sfS (Safe.exa hZ17.alike f57 (by decide) (by decide)) (sfS (Safe.exa hZ17.alike p46_7 (by decide) (by decide)) (sfS (Safe.exa hZ17.alike p46_11 (by decide) (by decide)) sf0))))) C47.1)
  refine go_tr st73 ?_
  show Go _ _ _ _ (T73.setTop (mkF m 102 #[iv p0, iv p1, iv p2, iv p3, iv p4, rv fv_1, rv fv_3, rv a_8, rv fv_17, iv 1, rv b37, .unset] [(.int 1)]))
  refine go_st (fun t k => XS.istore X73.here hx rfl (hb hby at_102) rfl (l' := #[iv p0, iv p1, iv p2, iv p3, iv p4, rv fv_1, rv fv_3, rv a_8, rv fv_17, iv 1, rv b37, iv 1]) rfl k) ?_
  refine go_st (fun t k => XS.iload X73.here hx rfl (hb hby at_104) rfl k) ?_
  show Go _ _ _ _ (T73.setTop (mkF m 106 #[iv p0, iv p1, iv p2, iv p3, iv p4, rv fv_1, rv fv_3, rv a_8, rv fv_17, iv 1, rv b37, iv 1] [(.int 1)]))
  refine go_st (fun t k => XS.ifNo X73.here hx rfl (hb hby at_106) rfl ((if0 _ _).trans (feq ((by decide) : ¬ ((1 : Int32) = (0 : Int32)))).1) k) ?_
  show Go _ _ _ _ (T73.setTop (mkF m 109 #[iv p0, iv p1, iv p2, iv p3, iv p4, rv fv_1, rv fv_3, rv a_8, rv fv_17, iv 1, rv b37, iv 1] []))
  refine go_st (fun t k => XS.iload X73.here hx rfl (hb hby at_109) rfl k) ?_
  show Go _ _ _ _ (T73.setTop (mkF m 111 #[iv p0, iv p1, iv p2, iv p3, iv p4, rv fv_1, rv fv_3, rv a_8, rv fv_17, iv 1, rv b37, iv 1] [(.int 1)]))
  refine go_st (fun t k => XS.ifNo X73.here hx rfl (hb hby at_111) rfl ((if0 _ _).trans (feq ((by decide) : ¬ ((1 : Int32) = (0 : Int32)))).1) k) ?_
  show Go _ _ _ _ (T73.setTop (mkF m 114 #[iv p0, iv p1, iv p2, iv p3, iv p4, rv fv_1, rv fv_3, rv a_8, rv fv_17, iv 1, rv b37, iv 1] []))
  refine go_st (fun t k => XS.aload X73.here hx rfl (hb hby at_114) rfl rfl k) ?_
  refine go_st (fun t k => XS.aload X73.here hx rfl (hb hby at_116) rfl rfl k) ?_
  show Go _ _ _ _ (T73.setTop (mkF m 118 #[iv p0, iv p1, iv p2, iv p3, iv p4, rv fv_1, rv fv_3, rv a_8, rv fv_17, iv 1, rv b37, iv 1] [(.ref a_8), (.ref fv_1)]))
  have f75 : Exa Z h73 fv_1 cFV := (f48.keep K73)
  have sz76 : h1.size ≤ h37.size := (Nat.le_trans sz51 E37.1)
  have nq77 : fv_1 ≠ lc_46 := Nat.ne_of_lt (Nat.lt_of_lt_of_le (Nat.lt_of_lt_of_le p1_5.lt sz76) lf46_1)
  have nq78 : fv_1 ≠ lu_46 := Nat.ne_of_lt (Nat.lt_of_lt_of_le (Nat.lt_of_lt_of_le p1_5.lt sz76) lf46_0)
  have nq79 : fv_1 ≠ fl_1 := ne_exa p1_5 p1_10 (by decide)
  have nq80 : fv_1 ≠ va_1 := Exa.neArv p1_5 p1_16 (w5 hw)
  have nq81 : fv_1 ≠ na_1 := Exa.neArv p1_5 p1_15 (w5 hw)
  have f82 : Fld Z h73 fv_1 cFV "atom" "Ljava/lang/String;" .null := (f53.keep K73 (ninS nq81 (ninS nq80 (ninS nq79 (ninS nq78 (ninS nq77 nin0))))))
  have f83 : Fld Z h73 fv_1 cFV "alternatives" "Ljava/util/Set;" .null := (f54.keep K73 (ninS nq81 (ninS nq80 (ninS nq79 (ninS nq78 (ninS nq77 nin0))))))
  have f84 : Fld Z h73 fv_1 cFV "features" "Lcom/example/adjoinery/adjoinery/FeatureList;" (.ref fl_1) := (f55.keep K73 (ninS nq81 (ninS nq80 (ninS nq79 (ninS nq78 (ninS nq77 nin0))))))
  have f85 : Fld Z h73 fv_1 cFV "forward" "Lcom/example/adjoinery/adjoinery/FeatureValue;" .null := (f56.keep K73 (ninS nq81 (ninS nq80 (ninS nq79 (ninS nq78 (ninS nq77 nin0))))))
  have f86 : Exa Z h73 a_8 cST := (f67.keep K73)
  have f87 : Exa Z h73 fv_17 cFV := (f68.keep K73)
  have nq88 : fv_17 ≠ b37 := Nat.ne_of_lt (Nat.lt_of_lt_of_le (Nat.lt_of_lt_of_le p17_1.lt (Nat.le_refl _)) (Nat.le_of_eq gq37.symm))
  have nq89 : fv_17 ≠ lc_46 := Nat.ne_of_lt (Nat.lt_of_lt_of_le (Nat.lt_of_lt_of_le p17_1.lt E37.1) lf46_1)
  have nq90 : fv_17 ≠ lu_46 := Nat.ne_of_lt (Nat.lt_of_lt_of_le (Nat.lt_of_lt_of_le p17_1.lt E37.1) lf46_0)
  have nq91 : fl_1 ≠ fv_17 := Nat.ne_of_lt (Nat.lt_of_lt_of_le (Nat.lt_of_lt_of_le p1_10.lt sz50) lf17_0)
  have nq92 : va_1 ≠ fv_17 := Nat.ne_of_lt (Nat.lt_of_lt_of_le (Nat.lt_of_lt_of_le p1_16.lt sz50) lf17_0)
  have nq93 : na_1 ≠ fv_17 := Nat.ne_of_lt (Nat.lt_of_lt_of_le (Nat.lt_of_lt_of_le p1_15.lt sz50) lf17_0)
  have f94 : Fld Z h73 fv_17 cFV "forward" "Lcom/example/adjoinery/adjoinery/FeatureValue;" .null := (((p17_5.ext E37).keep K46 (ninS nq88 nin0)).keep K73 (ninS (Ne.symm nq93) (ninS (Ne.symm nq92) (ninS (Ne.symm nq91) (ninS nq90 (ninS nq89 nin0))))))
  have sz95 : h0.size ≤ h73.size := (Nat.le_trans sz72 K73.1)
  obtain ⟨cq96, kq96, q96a, q96b, q96c⟩ := isOf hZ17 e73 f75
  obtain ⟨_, _, ⟨T96, L96, kk96, nn96⟩, -, X96, ⟨Lc96, hQ96, lq96, yq96, zq96⟩, st96⟩ := X73.virtualBack hx (y := (⟨"com/example/adjoinery/adjoinery/FeatureValue", "feature", "(Ljava/lang/String;)Lcom/example/adjoinery/adjoinery/FeatureValue;"⟩ : MethodName)) (z := (⟨"com/example/adjoinery/adjoinery/FeatureValue", "feature", "(Ljava/lang/String;)Lcom/example/adjoinery/adjoinery/FeatureValue;"⟩ : MethodName)) hown17 (mvT hZ17 (w106 hw)) (mvT hZ17 (w107 hw)) (nf_same (y := (⟨"com/example/adjoinery/adjoinery/FeatureValue", "feature", "(Ljava/lang/String;)Lcom/example/adjoinery/adjoinery/FeatureValue;"⟩ : MethodName)) (y' := (⟨"com/example/adjoinery/adjoinery/FeatureValue", "isStructure", "()Z"⟩ : MethodName)) (a0 := #[]) rfl (mvT hZ17 (w82 hw)) (notFace_of_selects (args := #[]) (mvT hZ17 (w83 hw)))) (mvT hZ17 (w109 hw)) (mvT hZ17 (w108 hw)) (by decide) (backOf (W := 0) (rm_feat1 l Z a0 hw [] fv_1 fl_1 na_1 va_1 kn_1 kv_1 a_8 fv_17 h73 n0 (Nat.le_trans Z0 sz95) f75 f82 f83 f84 f85 p73_0 p73_1 p73_2 p73_3 p73_4 p73_5 p73_6 f86 f87 f94) hZ17 (w110 hw) (w2 hw) (by decide) (by decide)) q96a q96c (g := (mkF m 118 #[iv p0, iv p1, iv p2, iv p3, iv p4, rv fv_1, rv fv_3, rv a_8, rv fv_17, iv 1, rv b37, iv 1] [(.ref a_8), (.ref fv_1)])) rfl (by rw [hml]; rfl) (Steps.refl _) (argsL := [(.ref a_8)]) (rest := []) (lenOf pd_12 rfl) rfl (by show 2 * 0 + _ ≤ _; exact Nat.le_of_eq rfl) (hb hby at_118) (fun _ _ => ⟨rfl, e73, (by decide : 27 + 0 ≤ _), (by decide : 126 + 0 ≤ _)⟩)
  dsimp only [Pt.U, Pt.locs, Pt.cells, Pt.slots] at X96 lq96 yq96 zq96 st96 hQ96
  subst lq96 yq96 zq96
  obtain ⟨h96, e96⟩ : ∃ z, T96.heap = z := ⟨_, rfl⟩
  rw [e96] at hQ96
  obtain ⟨rfl, N96q, he96⟩ := hQ96
  have N96 := Fr.app N73 N96q
  rw [he96] at e96
  refine go_tr st96 ?_
  show Go _ _ _ _ (T96.setTop (mkF m 121 #[iv p0, iv p1, iv p2, iv p3, iv p4, rv fv_1, rv fv_3, rv a_8, rv fv_17, iv 1, rv b37, iv 1] [(.ref fv_17)]))
  refine go_st (fun t k => XS.aload X96.here hx rfl (hb hby at_121) rfl rfl k) ?_
  show Go _ _ _ _ (T96.setTop (mkF m 123 #[iv p0, iv p1, iv p2, iv p3, iv p4, rv fv_1, rv fv_3, rv a_8, rv fv_17, iv 1, rv b37, iv 1] [(.ref fv_17), (.ref fv_17)]))
  refine go_st (fun t k => Jvm.RoadKit.acmp (g := (mkF m 123 #[iv p0, iv p1, iv p2, iv p3, iv p4, rv fv_1, rv fv_3, rv a_8, rv fv_17, iv 1, rv b37, iv 1] [(.ref fv_17), (.ref fv_17)])) X96 hx rfl rfl rfl (pc0 := 123) (pc' := 126) (same := true) rfl (hb hby at_123) rfl (decide_eq_true rfl) (by decide) (by decide) k) ?_
  show Go _ _ _ _ (T96.setTop (mkF m 126 #[iv p0, iv p1, iv p2, iv p3, iv p4, rv fv_1, rv fv_3, rv a_8, rv fv_17, iv 1, rv b37, iv 1] []))
  refine go_st (fun t k => XS.aload X96.here hx rfl (hb hby at_126) rfl rfl k) ?_
  refine go_st (fun t k => XS.aload X96.here hx rfl (hb hby at_128) rfl rfl k) ?_
  show Go _ _ _ _ (T96.setTop (mkF m 130 #[iv p0, iv p1, iv p2, iv p3, iv p4, rv fv_1, rv fv_3, rv a_8, rv fv_17, iv 1, rv b37, iv 1] [(.ref a_8), (.ref fv_3)]))
  have f97 : Exa Z h73 fv_3 cFV := ((((((p3_5.keep K8).keep K12).keep K17).ext E37).keep K46).keep K73)
  have sz98 : h3.size ≤ h12.size := (Nat.le_trans K8.1 K12.1)
  have sz99 : h3.size ≤ h17.size := (Nat.le_trans sz98 K17.1)
  have nq100 : fv_3 ≠ b37 := Nat.ne_of_lt (Nat.lt_of_lt_of_le (Nat.lt_of_lt_of_le p3_5.lt sz99) (Nat.le_of_eq gq37.symm))
  have sz101 : h3.size ≤ h37.size := (Nat.le_trans sz99 E37.1)
  have nq102 : fv_3 ≠ lc_46 := Nat.ne_of_lt (Nat.lt_of_lt_of_le (Nat.lt_of_lt_of_le p3_5.lt sz101) lf46_1)
  have nq103 : fv_3 ≠ lu_46 := Nat.ne_of_lt (Nat.lt_of_lt_of_le (Nat.lt_of_lt_of_le p3_5.lt sz101) lf46_0)
  have nq104 : fl_1 ≠ fv_3 := Nat.ne_of_lt (Nat.lt_of_lt_of_le (Nat.lt_of_lt_of_le p1_10.lt (Nat.le_refl _)) lf3_0)
  have nq105 : va_1 ≠ fv_3 := Nat.ne_of_lt (Nat.lt_of_lt_of_le (Nat.lt_of_lt_of_le p1_16.lt (Nat.le_refl _)) lf3_0)
  have nq106 : na_1 ≠ fv_3 := Nat.ne_of_lt (Nat.lt_of_lt_of_le (Nat.lt_of_lt_of_le p1_15.lt (Nat.le_refl _)) lf3_0)
  have f107 : Fld Z h73 fv_3 cFV "atom" "Ljava/lang/String;" .null := ((((((p3_6.keep K8 nin0).keep K12 nin0).keep K17 nin0).ext E37).keep K46 (ninS nq100 nin0)).keep K73 (ninS (Ne.symm nq106) (ninS (Ne.symm nq105) (ninS (Ne.symm nq104) (ninS nq103 (ninS nq102 nin0))))))
  have f108 : Fld Z h73 fv_3 cFV "alternatives" "Ljava/util/Set;" .null := ((((((p3_7.keep K8 nin0).keep K12 nin0).keep K17 nin0).ext E37).keep K46 (ninS nq100 nin0)).keep K73 (ninS (Ne.symm nq106) (ninS (Ne.symm nq105) (ninS (Ne.symm nq104) (ninS nq103 (ninS nq102 nin0))))))
  have f109 : Fld Z h73 fv_3 cFV "features" "Lcom/example/adjoinery/adjoinery/FeatureList;" (.ref fl_3) := ((((((p3_8.keep K8 nin0).keep K12 nin0).keep K17 nin0).ext E37).keep K46 (ninS nq100 nin0)).keep K73 (ninS (Ne.symm nq106) (ninS (Ne.symm nq105) (ninS (Ne.symm nq104) (ninS nq103 (ninS nq102 nin0))))))
  have f110 : Fld Z h73 fv_3 cFV "forward" "Lcom/example/adjoinery/adjoinery/FeatureValue;" .null := ((((((p3_9.keep K8 nin0).keep K12 nin0).keep K17 nin0).ext E37).keep K46 (ninS nq100 nin0)).keep K73 (ninS (Ne.symm nq106) (ninS (Ne.symm nq105) (ninS (Ne.symm nq104) (ninS nq103 (ninS nq102 nin0))))))
  have f111 : Exa Z h73 fl_3 cFL := ((((((p3_10.keep K8).keep K12).keep K17).ext E37).keep K46).keep K73)
  have nq112 : fl_3 ≠ b37 := Nat.ne_of_lt (Nat.lt_of_lt_of_le (Nat.lt_of_lt_of_le p3_10.lt sz99) (Nat.le_of_eq gq37.symm))
  have nq113 : fl_3 ≠ lc_46 := Nat.ne_of_lt (Nat.lt_of_lt_of_le (Nat.lt_of_lt_of_le p3_10.lt sz101) lf46_1)
  have nq114 : fl_3 ≠ lu_46 := Nat.ne_of_lt (Nat.lt_of_lt_of_le (Nat.lt_of_lt_of_le p3_10.lt sz101) lf46_0)
  have nq115 : fl_1 ≠ fl_3 := Nat.ne_of_lt (Nat.lt_of_lt_of_le (Nat.lt_of_lt_of_le p1_10.lt (Nat.le_refl _)) lf3_1)
  have nq116 : va_1 ≠ fl_3 := Nat.ne_of_lt (Nat.lt_of_lt_of_le (Nat.lt_of_lt_of_le p1_16.lt (Nat.le_refl _)) lf3_1)
  have nq117 : na_1 ≠ fl_3 := Nat.ne_of_lt (Nat.lt_of_lt_of_le (Nat.lt_of_lt_of_le p1_15.lt (Nat.le_refl _)) lf3_1)
  have f118 : Fld Z h73 fl_3 cFL "names" "[Ljava/lang/String;" (.ref na_3) := ((((((p3_11.keep K8 nin0).keep K12 nin0).keep K17 nin0).ext E37).keep K46 (ninS nq112 nin0)).keep K73 (ninS (Ne.symm nq117) (ninS (Ne.symm nq116) (ninS (Ne.symm nq115) (ninS nq114 (ninS nq113 nin0))))))
  have f119 : Fld Z h73 fl_3 cFL "values" "[Lcom/example/adjoinery/adjoinery/FeatureValue;" (.ref va_3) := ((((((p3_12.keep K8 nin0).keep K12 nin0).keep K17 nin0).ext E37).keep K46 (ninS nq112 nin0)).keep K73 (ninS (Ne.symm nq117) (ninS (Ne.symm nq116) (ninS (Ne.symm nq115) (ninS nq114 (ninS nq113 nin0))))))
  have f120 : Fld Z h73 fl_3 cFL "positions" "Ljava/util/Map;" .null := ((((((p3_13.keep K8 nin0).keep K12 nin0).keep K17 nin0).ext E37).keep K46 (ninS nq112 nin0)).keep K73 (ninS (Ne.symm nq117) (ninS (Ne.symm nq116) (ninS (Ne.symm nq115) (ninS nq114 (ninS nq113 nin0))))))
  have f121 : Fld Z h73 fl_3 cFL "size" "I" (.int 0) := ((((((p3_14.keep K8 nin0).keep K12 nin0).keep K17 nin0).ext E37).keep K46 (ninS nq112 nin0)).keep K73 (ninS (Ne.symm nq117) (ninS (Ne.symm nq116) (ninS (Ne.symm nq115) (ninS nq114 (ninS nq113 nin0))))))
  have nq122 : na_3 ≠ b37 := Nat.ne_of_lt (Nat.lt_of_lt_of_le (Nat.lt_of_lt_of_le p3_15.lt sz99) (Nat.le_of_eq gq37.symm))
  have nq123 : na_3 ≠ lc_46 := Nat.ne_of_lt (Nat.lt_of_lt_of_le (Nat.lt_of_lt_of_le p3_15.lt sz101) lf46_1)
  have nq124 : na_3 ≠ lu_46 := Nat.ne_of_lt (Nat.lt_of_lt_of_le (Nat.lt_of_lt_of_le p3_15.lt sz101) lf46_0)
  have nq125 : fl_1 ≠ na_3 := Nat.ne_of_lt (Nat.lt_of_lt_of_le (Nat.lt_of_lt_of_le p1_10.lt (Nat.le_refl _)) lf3_2)
  have nq126 : va_1 ≠ na_3 := Nat.ne_of_lt (Nat.lt_of_lt_of_le (Nat.lt_of_lt_of_le p1_16.lt (Nat.le_refl _)) lf3_2)
  have nq127 : na_1 ≠ na_3 := Nat.ne_of_lt (Nat.lt_of_lt_of_le (Nat.lt_of_lt_of_le p1_15.lt (Nat.le_refl _)) lf3_2)
  have f128 : Arv Z h73 na_3 kn_3 (.object "java/lang/String") (4 : Int32) [.null, .null, .null, .null] .null := ((((((p3_15.keep K8 nin0).keep K12 nin0).keep K17 nin0).ext E37).keep K46 (ninS nq122 nin0)).keep K73 (ninS (Ne.symm nq127) (ninS (Ne.symm nq126) (ninS (Ne.symm nq125) (ninS nq124 (ninS nq123 nin0))))))
  have nq129 : va_3 ≠ b37 := Nat.ne_of_lt (Nat.lt_of_lt_of_le (Nat.lt_of_lt_of_le p3_16.lt sz99) (Nat.le_of_eq gq37.symm))
  have nq130 : va_3 ≠ lc_46 := Nat.ne_of_lt (Nat.lt_of_lt_of_le (Nat.lt_of_lt_of_le p3_16.lt sz101) lf46_1)
  have nq131 : va_3 ≠ lu_46 := Nat.ne_of_lt (Nat.lt_of_lt_of_le (Nat.lt_of_lt_of_le p3_16.lt sz101) lf46_0)
  have nq132 : fl_1 ≠ va_3 := Nat.ne_of_lt (Nat.lt_of_lt_of_le (Nat.lt_of_lt_of_le p1_10.lt (Nat.le_refl _)) lf3_3)
  have nq133 : va_1 ≠ va_3 := Nat.ne_of_lt (Nat.lt_of_lt_of_le (Nat.lt_of_lt_of_le p1_16.lt (Nat.le_refl _)) lf3_3)
  have nq134 : na_1 ≠ va_3 := Nat.ne_of_lt (Nat.lt_of_lt_of_le (Nat.lt_of_lt_of_le p1_15.lt (Nat.le_refl _)) lf3_3)
  have f135 : Arv Z h73 va_3 kv_3 (.object "com/example/adjoinery/adjoinery/FeatureValue") (4 : Int32) [.null, .null, .null, .null] .null := ((((((p3_16.keep K8 nin0).keep K12 nin0).keep K17 nin0).ext E37).keep K46 (ninS nq129 nin0)).keep K73 (ninS (Ne.symm nq134) (ninS (Ne.symm nq133) (ninS (Ne.symm nq132) (ninS nq131 (ninS nq130 nin0))))))
  obtain ⟨cq136, kq136, q136a, q136b, q136c⟩ := isOf hZ17 e96 f97
  obtain ⟨_, _, ⟨T136, L136, kk136, nn136⟩, -, X136, ⟨Lc136, hQ136, lq136, yq136, zq136⟩, st136⟩ := X96.virtualBack hx (y := (⟨"com/example/adjoinery/adjoinery/FeatureValue", "feature", "(Ljava/lang/String;)Lcom/example/adjoinery/adjoinery/FeatureValue;"⟩ : MethodName)) (z := (⟨"com/example/adjoinery/adjoinery/FeatureValue", "feature", "(Ljava/lang/String;)Lcom/example/adjoinery/adjoinery/FeatureValue;"⟩ : MethodName)) hown17 (mvT hZ17 (w106 hw)) (mvT hZ17 (w107 hw)) (nf_same (y := (⟨"com/example/adjoinery/adjoinery/FeatureValue", "feature", "(Ljava/lang/String;)Lcom/example/adjoinery/adjoinery/FeatureValue;"⟩ : MethodName)) (y' := (⟨"com/example/adjoinery/adjoinery/FeatureValue", "isStructure", "()Z"⟩ : MethodName)) (a0 := #[]) rfl (mvT hZ17 (w82 hw)) (notFace_of_selects (args := #[]) (mvT hZ17 (w83 hw)))) (mvT hZ17 (w109 hw)) (mvT hZ17 (w108 hw)) (by decide) (backOf (W := 0) (rm_feat0 l Z a0 hw [] fv_3 fl_3 na_3 va_3 kn_3 kv_3 a_8 h73 n0 (Nat.le_trans Z0 sz95) f97 f107 f108 f109 f110 f111 f118 f119 f120 f121 f128 f135) hZ17 (w110 hw) (w2 hw) (by decide) (by decide)) q136a q136c (g := (mkF m 130 #[iv p0, iv p1, iv p2, iv p3, iv p4, rv fv_1, rv fv_3, rv a_8, rv fv_17, iv 1, rv b37, iv 1] [(.ref a_8), (.ref fv_3)])) rfl (by rw [hml]; rfl) (Steps.refl _) (argsL := [(.ref a_8)]) (rest := []) (lenOf pd_12 rfl) rfl (by show 2 * 0 + _ ≤ _; exact Nat.le_of_eq rfl) (hb hby at_130) (fun _ _ => ⟨rfl, e96, (by decide : 27 + 0 ≤ _), (by decide : 126 + 0 ≤ _)⟩)
  dsimp only [Pt.U, Pt.locs, Pt.cells, Pt.slots] at X136 lq136 yq136 zq136 st136 hQ136
  subst lq136 yq136 zq136
  obtain ⟨h136, e136⟩ : ∃ z, T136.heap = z := ⟨_, rfl⟩
  rw [e136] at hQ136
  obtain ⟨rfl, N136q, he136⟩ := hQ136
  have N136 := Fr.app N96 N136q
  rw [he136] at e136
  refine go_tr st136 ?_
  show Go _ _ _ _ (T136.setTop (mkF m 133 #[iv p0, iv p1, iv p2, iv p3, iv p4, rv fv_1, rv fv_3, rv a_8, rv fv_17, iv 1, rv b37, iv 1] [.null]))
  refine go_st (fun t k => XS.ifnonnullNo X136.here hx rfl (hb hby at_133) rfl k) ?_
  show Go _ _ _ _ (T136.setTop (mkF m 136 #[iv p0, iv p1, iv p2, iv p3, iv p4, rv fv_1, rv fv_3, rv a_8, rv fv_17, iv 1, rv b37, iv 1] []))
  refine go_st (fun t k => XS.iconst X136.here hx rfl (hb hby at_136) k) ?_
  refine go_st (fun t k => XS.goto X136.here hx rfl (pc0 := 137) (pc' := 141) rfl (hb hby at_137) (by decide) (by decide) k) ?_
  show Go _ _ _ _ (T136.setTop (mkF m 141 #[iv p0, iv p1, iv p2, iv p3, iv p4, rv fv_1, rv fv_3, rv a_8, rv fv_17, iv 1, rv b37, iv 1] [(.int 1)]))
  have ke137 : Keep h0 h1 [] := (Keep.trans (Keep.refl h0 []) K1 all0)
  have ke138 : Keep h0 h3 [] := (Keep.trans ke137 K3 all0)
  have ke139 : Keep h0 h8 [] := (Keep.trans ke138 K8 all0)
  have ke140 : Keep h0 h12 [] := (Keep.trans ke139 K12 all0)
  have ke141 : Keep h0 h17 [] := (Keep.trans ke140 K17 all0)
  have ke142 : Keep h0 h37 [] := (Keep.ext ke141 E37)
  have ke143 : Keep h0 h46 [] := (Keep.trans ke142 K46 (allS (Or.inr (Nat.le_trans sz24 (Nat.le_of_eq gq37.symm))) all0))
  have ke144 : Keep h0 h73 [] := (Keep.trans ke143 K73 (allS (Or.inr lf1_2) (allS (Or.inr lf1_3) (allS (Or.inr lf1_1) (allS (Or.inr (Nat.le_trans sz45 lf46_0)) (allS (Or.inr (Nat.le_trans sz45 lf46_1)) all0))))))
  have sz145 : h17.size ≤ h46.size := (Nat.le_trans E37.1 K46.1)
  have sz146 : h17.size ≤ h73.size := (Nat.le_trans sz145 K73.1)
  obtain ⟨fs, hr, hrun, hended, hR⟩ := X136.leaveW hS17 (by rw [e136]; exact (Nat.le_trans (Nat.le_refl _) sz146)) (v := some (.int 1)) (fun h => by rw [Bd.returns] at h; cases h)
  refine ⟨_, _, ?_, hrun, hended, _, _, rfl, ?_, ?_, hR.1, hR.2.1, hR.2.2.1, hR.2.2.2.mono (by decide) (by decide)⟩
  · exact retN X136 hx (t := .boolean) Bd.returns (by simp) (hb hby at_141) hr
  · show Q_law _ _ _ _ _ _ _ _ _ _ _ _ T136.heap _
    rw [e136]
    exact ⟨rfl, N136, ke144⟩
  · show CHr Z consts_1 s.vm s.heap T136.vm T136.heap
    rw [hh, e136]
    exact CHr.trans C74 (CHv.at X136 hZ17 (hEL hw) C74.1)
set_option maxRecDepth 65536 in
set_option maxHeartbeats 40000000 in
theorem comes_1 {Post : Tables → Env → Array Value → State → Outcome → State → Prop} (hpost : ∀ tb e args s v u, (limb_1_1.after args s (.returned v) u = true ∧ limb_1_2.after args s (.returned v) u = true ∧ True) → ReturnedEndW s (.returned v) u (Jvm.fieldLocs frame_1_writes args s ++ Jvm.arrayLocs frame_1_arrays args s ++ Jvm.staticLocs frame_1_statics s) 56 2368 → Post tb e args s (.returned v) u) :
    ArmFor flags0 classFile x code maxLocals ret World_1 tables_1 room_1 Calls_1 rest_1 Pre_1 Post := by
  intro l hfl _ _ p e ha hc hk s m args below hf hA hF happ hP
  obtain ⟨hcalls, hrest, hpre⟩ := hP
  obtain ⟨-, -, -, hnamed, -, -, -, hat⟩ := (Spec.applies_iff hf).mp happ
  obtain ⟨hg, hn⟩ := and_e (Cond.before_iff.mp (show (Jvm.Cond.and given_1 narrow_1).before args s = true from hpre))
  obtain ⟨hcnt, ha0⟩ := and_e hg
  obtain ⟨gi0, ha1⟩ := and_e ha0
  obtain ⟨gi1, ha2⟩ := and_e ha1
  obtain ⟨gi2, ha3⟩ := and_e ha2
  obtain ⟨gi3, ha4⟩ := and_e ha3
  have gi4 := ha4
  obtain ⟨w0_, w1_, w2_, w3_, w4_, rfl⟩ : ∃ w0_ w1_ w2_ w3_ w4_ : Value, args = #[w0_, w1_, w2_, w3_, w4_] := by
    have hs : args.size = 5 := by simpa [Cond.value, given_1] using hcnt
    obtain ⟨L⟩ := args
    match L, hs with
    | [w0_, w1_, w2_, w3_, w4_], _ => exact ⟨w0_, w1_, w2_, w3_, w4_, rfl⟩
  have hw := fun d (hd : d ∈ tables_1) => atoms_spec (ws := Jvm.Cond.code x code maxLocals ret :: tables_1) hat d (List.mem_cons_of_mem _ hd)
  have hfit : Fit s := fun {y c} hc i hi => by
    obtain ⟨ha, rfl⟩ := Array.getElem?_eq_some_iff.mp hc
    have q := List.all_eq_true.mp ((Array.all_eq_true_iff_forall_mem.mp hF) _ (Array.getElem_mem ha)) i (List.mem_range.mpr hi)
    simpa [Array.getElem?_eq_getElem hi] using q
  obtain ⟨hsets, hown0⟩ := atoms_of _ (rest_1_c_eq ▸ (show rest_1_c.before _ s = true from hrest))
  obtain ⟨i0, ei0⟩ := is_v gi0
  obtain rfl : w0_ = (.int i0) := Option.some.inj ei0
  obtain ⟨i1, ei1⟩ := is_v gi1
  obtain rfl : w1_ = (.int i1) := Option.some.inj ei1
  obtain ⟨i2, ei2⟩ := is_v gi2
  obtain rfl : w2_ = (.int i2) := Option.some.inj ei2
  obtain ⟨i3, ei3⟩ := is_v gi3
  obtain rfl : w3_ = (.int i3) := Option.some.inj ei3
  obtain ⟨i4, ei4⟩ := is_v gi4
  obtain rfl : w4_ = (.int i4) := Option.some.inj ei4
  have n3 := not_v (Cond.before_iff.mp (hsets _ (List.mem_of_getElem? (i := 2) rfl)))
  obtain ⟨G1, e6⟩ := is_v (Cond.before_iff.mp (hsets _ (List.mem_of_getElem? (i := 1) rfl)))
  have CS : Sta s s.heap "java/lang/String" "COMPACT_STRINGS" "Z" (.int G1) := Sta.start e6 (Or.inl (hsets _ (List.mem_of_getElem? (i := 0) rfl)))
  have CSn : ¬ (G1 = (0 : Int32)) := gotF (Cond.eq_ints e6 (Term.int_eval (0))) n3
  obtain ⟨de, ede⟩ := exa_v (Cond.before_iff.mp (hsets _ (List.mem_of_getElem? (i := 16) rfl)))
  have DES : Sta s s.heap "java/util/ArrayList" "DEFAULTCAPACITY_EMPTY_ELEMENTDATA" "[Ljava/lang/Object;" (.ref de) := Sta.start ede (Or.inr ⟨(w133 hw), (hsets _ (List.mem_of_getElem? (i := 11) rfl))⟩)
  obtain ⟨dcl, DAr⟩ := Arr.start ede (Cond.before_iff.mp (hsets _ (List.mem_of_getElem? (i := 15) rfl)))
  have DV := len0_of hfit DAr ede (Cond.before_iff.mp (hsets _ (List.mem_of_getElem? (i := 17) rfl)))
  obtain ⟨n, o, h1, h2, h3, _, L, rfl, ⟨rfl, N, -⟩, -, hq⟩ := rm_law l s _ hw tables_1 i0 i1 i2 i3 i4 G1 de dcl.cls s.heap s.heap.size (Nat.le_refl _) CS CSn DES DV.lt DV (Old.start s) p e ha hc hk s m _ below hf ((Spec.applies_iff_loose hf).mp happ).1 ⟨rfl, State.Warmed39.refl s, rfl, CHv.start (hEL hw) hcalls.1 (hsets _ (List.mem_of_getElem? (i := 2) rfl)) (w50 hw) (w38 hw)⟩ trivial
  refine ⟨n, _, h1, h2, h3, hpost _ _ _ _ _ _ ⟨Cond.after_iff.mpr rfl, Cond.after_iff.mpr (eq_i res_at (Term.int_eval (1)) rfl), trivial⟩ ⟨hq.1, hq.2.1, hq.2.2.1, (hq.2.2.2.sift fun y hy => Or.inr (N y hy)).mono (by decide) (by decide)⟩⟩
theorem main_1_1 : Claimed_1_1 := comes_1 fun _ _ _ _ _ _ h hF => ⟨h.1, hF⟩
theorem main_1_2 : Claimed_1_2 := comes_1 fun _ _ _ _ _ _ h hF => ⟨h.2.1, hF⟩
end Jvm.Pilot.@@N@@
namespace Jvm.Pilot.@@N@@
open Jvm Jvm.ClassFile Sem Op Lib Jvm.Free Jvm.Stand Jvm.Pilot.@@N@@.Jvm.D
/-! MADE BY PROGRAM (witnessworld.py) out of the Statement's table words and the real class files: 40 classes; the members and pool entries that the words name. The judged class is class 1, her method 2. -/
namespace start1
open Jvm.ClassFile
def u (s : String) : CpInfo := .utf8 (stringToUtf16 s)
/-- a pool by its gaps: so many unusable entries, then the entry; so many at the end -/
def gap : Nat → List CpInfo → List CpInfo
  | 0, r => r
  | n + 1, r => .unusable :: gap n r
def poolList (es : List (Nat × CpInfo)) (last : Nat) : List CpInfo := es.foldr (fun e r => gap e.1 (e.2 :: r)) (gap last [])
def pool (es : List (Nat × CpInfo)) (last : Nat) : Array CpInfo := ⟨poolList es last⟩
def fileOf (pool : Array CpInfo) (this : Nat) (attrs : Array Attribute := #[]) (ms : Array MethodInfo := #[]) (fl : Nat := 33) (sup : Nat := 0) (ifs : Array Nat := #[]) (fds : Array FieldInfo := #[]) : ClassFile where
  minorVersion := 0
  majorVersion := 65
  constantPool := pool
  accessFlags := fl
  thisClass := this
  superClass := sup
  interfaces := ifs
  fields := fds
  methods := ms
  attributes := attrs
def plain (name : String) (sup : Option ClassId) : Class where
  name := name
  kind := .ordinary
  loader := none
  accessFlags := 33
  super := sup
  interfaces := #[]
  cf := none
  fields := #[]
  methods := #[]
  instanceTypes := #[]
  staticTypes := #[]
  resolved := #[]
  callSites := []
  init := .initialized
  statics := none
  mirror := none

def pool0 : Array CpInfo := pool [(5, u "<init>"), (0, u "()V"), (1, .class_ 10), (1, u "java/lang/Object")] 113

def k0c0 : Code := { maxStack := 0, maxLocals := 1, code := object_method_1_code, exceptionTable := #[], attributes := #[] }
def k0m0 : Method := { name := "<init>", desc := "()V", sig := { parameters := [], returnType := none }, accessFlags := 1, code := some k0c0 }
/-- java/lang/Object -/
def k0 : Class := { plain "java/lang/Object" none with
  accessFlags := 33
  interfaces := #[]
  cf := some (fileOf pool0 8 #[] #[{ accessFlags := 1, nameIndex := 5, descriptorIndex := 6, attributes := #[] }] 33 0 #[] #[])
  fields := #[]
  methods := #[k0m0]
  instanceTypes := #[]
  staticTypes := #[]
  resolved := Array.replicate 124 none
  statics := none }

def pool1 : Array CpInfo := pool [(2, .class_ 4), (0, .nameAndType 5 6), (0, u "java/lang/Object"), (0, u "<init>"), (0, u "()V"), (0, .class_ 8), (0, u "java/lang/String"), (0, .methodref 7 10), (0, .nameAndType 5 11), (0, u "([C)V"), (0, .methodref 13 14), (0, .class_ 15), (0, .nameAndType 16 17), (0, u "com/example/adjoinery/adjoinery/FeatureValue"), (0, u nmS), (0, u "()Lcom/example/adjoinery/adjoinery/FeatureValue;"), (0, .methodref 19 20), (0, .class_ 21), (0, .nameAndType 22 23), (0, u "com/example/adjoinery/adjoinery/FeatureValueStructurePinLaw"), (0, u "name"), (0, u "(IIII)Ljava/lang/String;"), (0, .methodref 7 25), (0, .nameAndType 26 27), (0, u "valueOf"), (0, u "(C)Ljava/lang/String;"), (0, .methodref 13 29), (0, .nameAndType 30 31), (0, u "atom"), (0, u "(Ljava/lang/String;)Lcom/example/adjoinery/adjoinery/FeatureValue;"), (0, .methodref 13 33), (0, .nameAndType 34 35), (0, u "isStructure"), (0, u "()Z"), (0, .methodref 13 37), (0, .nameAndType 38 35), (0, u "isUnbound"), (0, .methodref 13 40), (0, .nameAndType 30 41), (0, u "()Ljava/lang/String;"), (0, .methodref 13 43), (0, .nameAndType 44 31), (0, u "feature"), (0, .class_ 46), (0, u "com/example/adjoinery/adjoinery/Trail"), (0, .methodref 45 3), (0, .methodref 13 49), (0, .nameAndType 50 51), (0, u "addFeature"), (0, u "(Ljava/lang/String;Lcom/example/adjoinery/adjoinery/FeatureValue;Lcom/example/adjoinery/adjoinery/Trail;)Z"), (3, u "law"), (0, u "(IIIII)Z")] 2

def k1m0 : Method := { name := "<init>", desc := "()V", sig := { parameters := [], returnType := none }, accessFlags := 2, code := none }
def k1c1 : Code := { maxStack := 6, maxLocals := 8, code := method_2_code, exceptionTable := #[], attributes := #[] }
def k1m1 : Method := { name := "name", desc := "(IIII)Ljava/lang/String;", sig := { parameters := [.int, .int, .int, .int], returnType := some (.object "java/lang/String") }, accessFlags := 10, code := some k1c1 }
def k1c2 : Code := { maxStack := 4, maxLocals := 12, code := code, exceptionTable := #[], attributes := #[] }
def k1m2 : Method := { name := "law", desc := "(IIIII)Z", sig := { parameters := [.int, .int, .int, .int, .int], returnType := some .boolean }, accessFlags := 9, code := some k1c2 }
/-- com/example/adjoinery/adjoinery/FeatureValueStructurePinLaw -/
def k1 : Class := { plain "com/example/adjoinery/adjoinery/FeatureValueStructurePinLaw" (some 0) with
  accessFlags := 49
  interfaces := #[]
  cf := some (fileOf pool1 19 #[] #[{ accessFlags := 2, nameIndex := 5, descriptorIndex := 6, attributes := #[] }, { accessFlags := 10, nameIndex := 22, descriptorIndex := 23, attributes := #[] }, { accessFlags := 9, nameIndex := 55, descriptorIndex := 56, attributes := #[] }] 49 2 #[] #[])
  fields := #[]
  methods := #[k1m0, k1m1, k1m2]
  instanceTypes := #[]
  staticTypes := #[]
  resolved := Array.replicate 59 none
  statics := none }

def pool2 : Array CpInfo := pool [(1, .methodref 2 3), (0, .class_ 4), (0, .nameAndType 5 6), (0, u "java/lang/Object"), (0, u "<init>"), (0, u "()V"), (0, .fieldref 8 9), (0, .class_ 10), (0, .nameAndType 11 12), (0, u "com/example/adjoinery/adjoinery/FeatureValue"), (0, u "atom"), (0, u "Ljava/lang/String;"), (0, .fieldref 8 14), (0, .nameAndType 15 16), (0, u "alternatives"), (0, u "Ljava/util/Set;"), (0, .fieldref 8 18), (0, .nameAndType 19 20), (0, u "features"), (0, u "Lcom/example/adjoinery/adjoinery/FeatureList;"), (0, .methodref 8 22), (0, .nameAndType 5 23), (0, u "(Ljava/lang/String;Ljava/util/Set;Lcom/example/adjoinery/adjoinery/FeatureList;)V"), (0, .string 11), (0, .methodref 26 27), (0, .class_ 28), (0, .nameAndType 29 30), (0, u "java/util/Objects"), (0, u "requireNonNull"), (0, u "(Ljava/lang/Object;Ljava/lang/String;)Ljava/lang/Object;"), (10, u "()Z"), (25, u "(Ljava/lang/String;)Lcom/example/adjoinery/adjoinery/FeatureValue;"), (6, .class_ 75), (0, u "com/example/adjoinery/adjoinery/FeatureList"), (0, .methodref 74 77), (0, .nameAndType 5 78), (0, u "(I)V"), (0, .methodref 8 80), (0, .nameAndType 81 82), (0, u "resolve"), (0, u "()Lcom/example/adjoinery/adjoinery/FeatureValue;"), (29, .methodref 74 113), (0, .nameAndType 114 67), (0, u "get"), (0, .methodref 8 116), (0, .nameAndType 117 41), (0, u "isVariable"), (1, .class_ 121), (1, u "com/example/adjoinery/adjoinery/Trail"), (12, .methodref 8 135), (0, .nameAndType 136 137), (0, u "putIfAbsent"), (0, u "(Ljava/lang/String;Lcom/example/adjoinery/adjoinery/FeatureValue;Lcom/example/adjoinery/adjoinery/Trail;)Lcom/example/adjoinery/adjoinery/FeatureValue;"), (6, u "(Ljava/lang/Object;)Ljava/lang/Object;"), (11, .methodref 74 157), (0, .nameAndType 158 159), (0, u "add"), (0, u "(Ljava/lang/String;Lcom/example/adjoinery/adjoinery/FeatureValue;)V"), (9, u "rank"), (0, u "I"), (26, .methodref 26 198), (0, .nameAndType 29 144), (0, .invokeDynamic 0 200), (0, .nameAndType 201 202), (0, u "run"), (0, u "(Lcom/example/adjoinery/adjoinery/FeatureList;)Ljava/lang/Runnable;"), (0, .methodref 119 204), (0, .nameAndType 205 206), (0, u "record"), (0, u "(Lcom/example/adjoinery/adjoinery/FeatureValue;Ljava/lang/Runnable;)V"), (0, .fieldref 8 208), (0, .nameAndType 209 210), (0, u "forward"), (0, u "Lcom/example/adjoinery/adjoinery/FeatureValue;"), (14, u nmS), (0, u "()Ljava/lang/String;"), (3, u "feature"), (0, u "isUnbound"), (0, u "isStructure"), (0, u "addFeature"), (0, u "(Ljava/lang/String;Lcom/example/adjoinery/adjoinery/FeatureValue;Lcom/example/adjoinery/adjoinery/Trail;)Z"), (12, .class_ 248), (0, u "com/example/adjoinery/adjoinery/FeatureValue$ChangeCopier"), (0, .class_ 250), (0, u "com/example/adjoinery/adjoinery/FeatureValue$ShapeWriter"), (1, .methodType 6), (0, .methodHandle 5 254), (0, .methodref 74 255), (0, .nameAndType 256 6), (0, u "removeLast"), (6, .methodHandle 6 264), (0, .methodref 265 266), (0, .class_ 267), (0, .nameAndType 268 269), (0, u "java/lang/invoke/LambdaMetafactory"), (0, u "metafactory"), (0, u "(Ljava/lang/invoke/MethodHandles$Lookup;Ljava/lang/String;Ljava/lang/invoke/MethodType;Ljava/lang/invoke/MethodType;Ljava/lang/invoke/MethodHandle;Ljava/lang/invoke/MethodType;)Ljava/lang/invoke/CallSite;")] 8

def k2c0 : Code := { maxStack := 2, maxLocals := 4, code := prog_22_method_1_code, exceptionTable := #[], attributes := #[] }
def k2m0 : Method := { name := "<init>", desc := "(Ljava/lang/String;Ljava/util/Set;Lcom/example/adjoinery/adjoinery/FeatureList;)V", sig := { parameters := [(.object "java/lang/String"), (.object "java/util/Set"), (.object "com/example/adjoinery/adjoinery/FeatureList")], returnType := none }, accessFlags := 2, code := some k2c0 }
def k2c1 : Code := { maxStack := 5, maxLocals := 1, code := prog_22_method_3_code, exceptionTable := #[], attributes := #[] }
def k2m1 : Method := { name := "atom", desc := "(Ljava/lang/String;)Lcom/example/adjoinery/adjoinery/FeatureValue;", sig := { parameters := [(.object "java/lang/String")], returnType := some (.object "com/example/adjoinery/adjoinery/FeatureValue") }, accessFlags := 8, code := some k2c1 }
def k2c2 : Code := { maxStack := 7, maxLocals := 0, code := prog_22_method_5_code, exceptionTable := #[], attributes := #[] }
def k2m2 : Method := { name := nmS, desc := "()Lcom/example/adjoinery/adjoinery/FeatureValue;", sig := { parameters := [], returnType := some (.object "com/example/adjoinery/adjoinery/FeatureValue") }, accessFlags := 8, code := some k2c2 }
def k2c3 : Code := { maxStack := 1, maxLocals := 1, code := prog_22_method_6_code, exceptionTable := #[], attributes := #[] }
def k2m3 : Method := { name := "atom", desc := "()Ljava/lang/String;", sig := { parameters := [], returnType := some (.object "java/lang/String") }, accessFlags := 1, code := some k2c3 }
def k2c4 : Code := { maxStack := 2, maxLocals := 4, code := prog_22_method_9_code, exceptionTable := #[], attributes := #[] }
def k2m4 : Method := { name := "feature", desc := "(Ljava/lang/String;)Lcom/example/adjoinery/adjoinery/FeatureValue;", sig := { parameters := [(.object "java/lang/String")], returnType := some (.object "com/example/adjoinery/adjoinery/FeatureValue") }, accessFlags := 1, code := some k2c4 }
def k2c5 : Code := { maxStack := 1, maxLocals := 1, code := prog_22_method_10_code, exceptionTable := #[], attributes := #[] }
def k2m5 : Method := { name := "isUnbound", desc := "()Z", sig := { parameters := [], returnType := some .boolean }, accessFlags := 1, code := some k2c5 }
def k2c6 : Code := { maxStack := 1, maxLocals := 1, code := prog_22_method_11_code, exceptionTable := #[], attributes := #[] }
def k2m6 : Method := { name := "isStructure", desc := "()Z", sig := { parameters := [], returnType := some .boolean }, accessFlags := 1, code := some k2c6 }
def k2c7 : Code := { maxStack := 4, maxLocals := 5, code := prog_22_method_13_code, exceptionTable := #[], attributes := #[] }
def k2m7 : Method := { name := "addFeature", desc := "(Ljava/lang/String;Lcom/example/adjoinery/adjoinery/FeatureValue;Lcom/example/adjoinery/adjoinery/Trail;)Z", sig := { parameters := [(.object "java/lang/String"), (.object "com/example/adjoinery/adjoinery/FeatureValue"), (.object "com/example/adjoinery/adjoinery/Trail")], returnType := some .boolean }, accessFlags := 0, code := some k2c7 }
def k2c8 : Code := { maxStack := 1, maxLocals := 1, code := prog_22_method_18_code, exceptionTable := #[], attributes := #[] }
def k2m8 : Method := { name := "isVariable", desc := "()Z", sig := { parameters := [], returnType := some .boolean }, accessFlags := 2, code := some k2c8 }
def k2c9 : Code := { maxStack := 4, maxLocals := 5, code := prog_22_method_21_code, exceptionTable := #[], attributes := #[] }
def k2m9 : Method := { name := "putIfAbsent", desc := "(Ljava/lang/String;Lcom/example/adjoinery/adjoinery/FeatureValue;Lcom/example/adjoinery/adjoinery/Trail;)Lcom/example/adjoinery/adjoinery/FeatureValue;", sig := { parameters := [(.object "java/lang/String"), (.object "com/example/adjoinery/adjoinery/FeatureValue"), (.object "com/example/adjoinery/adjoinery/Trail")], returnType := some (.object "com/example/adjoinery/adjoinery/FeatureValue") }, accessFlags := 2, code := some k2c9 }
def k2c10 : Code := { maxStack := 1, maxLocals := 2, code := prog_22_method_23_code, exceptionTable := #[], attributes := #[] }
def k2m10 : Method := { name := "resolve", desc := "()Lcom/example/adjoinery/adjoinery/FeatureValue;", sig := { parameters := [], returnType := some (.object "com/example/adjoinery/adjoinery/FeatureValue") }, accessFlags := 0, code := some k2c10 }
/-- com/example/adjoinery/adjoinery/FeatureValue -/
def k2 : Class := { plain "com/example/adjoinery/adjoinery/FeatureValue" (some 0) with
  accessFlags := 49
  interfaces := #[]
  cf := some (fileOf pool2 8 #[.nestMembers #[247, 249], .bootstrapMethods #[⟨263, #[252, 253, 252]⟩, ⟨0, #[]⟩, ⟨0, #[]⟩]] #[{ accessFlags := 2, nameIndex := 5, descriptorIndex := 23, attributes := #[] }, { accessFlags := 8, nameIndex := 11, descriptorIndex := 67, attributes := #[] }, { accessFlags := 8, nameIndex := 225, descriptorIndex := 82, attributes := #[] }, { accessFlags := 1, nameIndex := 11, descriptorIndex := 226, attributes := #[] }, { accessFlags := 1, nameIndex := 230, descriptorIndex := 67, attributes := #[] }, { accessFlags := 1, nameIndex := 231, descriptorIndex := 41, attributes := #[] }, { accessFlags := 1, nameIndex := 232, descriptorIndex := 41, attributes := #[] }, { accessFlags := 0, nameIndex := 233, descriptorIndex := 234, attributes := #[] }, { accessFlags := 2, nameIndex := 117, descriptorIndex := 41, attributes := #[] }, { accessFlags := 2, nameIndex := 136, descriptorIndex := 137, attributes := #[] }, { accessFlags := 0, nameIndex := 81, descriptorIndex := 82, attributes := #[] }] 49 2 #[] #[{ accessFlags := 18, nameIndex := 11, descriptorIndex := 12, attributes := #[] }, { accessFlags := 18, nameIndex := 15, descriptorIndex := 16, attributes := #[] }, { accessFlags := 18, nameIndex := 19, descriptorIndex := 20, attributes := #[] }, { accessFlags := 2, nameIndex := 209, descriptorIndex := 210, attributes := #[] }, { accessFlags := 2, nameIndex := 169, descriptorIndex := 170, attributes := #[] }])
  fields := #[{ name := "atom", type := (.object "java/lang/String"), accessFlags := 18, slot := 0, constantValue := 0 }, { name := "alternatives", type := (.object "java/util/Set"), accessFlags := 18, slot := 1, constantValue := 0 }, { name := "features", type := (.object "com/example/adjoinery/adjoinery/FeatureList"), accessFlags := 18, slot := 2, constantValue := 0 }, { name := "forward", type := (.object "com/example/adjoinery/adjoinery/FeatureValue"), accessFlags := 2, slot := 3, constantValue := 0 }, { name := "rank", type := .int, accessFlags := 2, slot := 4, constantValue := 0 }]
  methods := #[k2m0, k2m1, k2m2, k2m3, k2m4, k2m5, k2m6, k2m7, k2m8, k2m9, k2m10]
  instanceTypes := #[(.object "java/lang/String"), (.object "java/util/Set"), (.object "com/example/adjoinery/adjoinery/FeatureList"), (.object "com/example/adjoinery/adjoinery/FeatureValue"), .int]
  staticTypes := #[]
  resolved := Array.replicate 278 none
  callSites := [(9, 35, .makes 39)]
  statics := none }

def pool3 : Array CpInfo := pool [(1, .methodref 2 3), (0, .class_ 4), (0, .nameAndType 5 6), (0, u "java/lang/Object"), (0, u "<init>"), (0, u "()V"), (0, .class_ 8), (0, u "java/lang/String"), (0, .fieldref 10 11), (0, .class_ 12), (0, .nameAndType 13 14), (0, u "com/example/adjoinery/adjoinery/FeatureList"), (0, u "names"), (0, u "[Ljava/lang/String;"), (0, .class_ 16), (0, u "com/example/adjoinery/adjoinery/FeatureValue"), (0, .fieldref 10 18), (0, .nameAndType 19 20), (0, u "values"), (0, u "[Lcom/example/adjoinery/adjoinery/FeatureValue;"), (0, .fieldref 10 22), (0, .nameAndType 23 24), (0, u "size"), (0, u "I"), (0, .methodref 10 26), (0, .nameAndType 27 28), (0, u "positionOf"), (0, u "(Ljava/lang/String;)I"), (0, .methodref 30 31), (0, .class_ 32), (0, .nameAndType 33 34), (0, u "java/lang/Math"), (0, u "max"), (0, u "(II)I"), (8, .fieldref 10 44), (0, .nameAndType 45 46), (0, u "positions"), (0, u "Ljava/util/Map;"), (21, u "get"), (4, .methodref 7 74), (0, .nameAndType 75 76), (0, u "equals"), (0, u "(Ljava/lang/Object;)Z"), (0, u "WALKED"), (4, u "(I)V"), (6, u "(Ljava/lang/String;)Lcom/example/adjoinery/adjoinery/FeatureValue;"), (1, u "add"), (0, u "(Ljava/lang/String;Lcom/example/adjoinery/adjoinery/FeatureValue;)V"), (0, u "removeLast")] 2

def k3c0 : Code := { maxStack := 2, maxLocals := 2, code := prog_20_method_1_code, exceptionTable := #[], attributes := #[] }
def k3m0 : Method := { name := "<init>", desc := "(I)V", sig := { parameters := [.int], returnType := none }, accessFlags := 0, code := some k3c0 }
def k3c1 : Code := { maxStack := 2, maxLocals := 3, code := prog_20_method_5_code, exceptionTable := #[], attributes := #[] }
def k3m1 : Method := { name := "get", desc := "(Ljava/lang/String;)Lcom/example/adjoinery/adjoinery/FeatureValue;", sig := { parameters := [(.object "java/lang/String")], returnType := some (.object "com/example/adjoinery/adjoinery/FeatureValue") }, accessFlags := 0, code := some k3c1 }
def k3c2 : Code := { maxStack := 4, maxLocals := 4, code := prog_20_method_6_code, exceptionTable := #[], attributes := #[] }
def k3m2 : Method := { name := "add", desc := "(Ljava/lang/String;Lcom/example/adjoinery/adjoinery/FeatureValue;)V", sig := { parameters := [(.object "java/lang/String"), (.object "com/example/adjoinery/adjoinery/FeatureValue")], returnType := none }, accessFlags := 0, code := some k3c2 }
def k3c3 : Code := { maxStack := 3, maxLocals := 1, code := ⟨#[0x2a, 0x59, 0xb4, 0x00, 0x15, 0x04, 0x64, 0xb5, 0x00, 0x15, 0x2a, 0xb4, 0x00, 0x2b, 0xc6, 0x00, 0x16, 0x2a, 0xb4, 0x00, 0x2b, 0x2a, 0xb4, 0x00, 0x09, 0x2a, 0xb4, 0x00, 0x15, 0x32, 0xb9, 0x00, 0x3e, 0x02, 0x00, 0x57, 0x2a, 0xb4, 0x00, 0x09, 0x2a, 0xb4, 0x00, 0x15, 0x01, 0x53, 0x2a, 0xb4, 0x00, 0x11, 0x2a, 0xb4, 0x00, 0x15, 0x01, 0x53, 0xb1]⟩, exceptionTable := #[], attributes := #[] }
def k3m3 : Method := { name := "removeLast", desc := "()V", sig := { parameters := [], returnType := none }, accessFlags := 0, code := some k3c3 }
def k3c4 : Code := { maxStack := 2, maxLocals := 4, code := prog_20_method_8_code, exceptionTable := #[], attributes := #[] }
def k3m4 : Method := { name := "positionOf", desc := "(Ljava/lang/String;)I", sig := { parameters := [(.object "java/lang/String")], returnType := some .int }, accessFlags := 2, code := some k3c4 }
/-- com/example/adjoinery/adjoinery/FeatureList -/
def k3 : Class := { plain "com/example/adjoinery/adjoinery/FeatureList" (some 0) with
  accessFlags := 48
  interfaces := #[]
  cf := some (fileOf pool3 10 #[] #[{ accessFlags := 0, nameIndex := 5, descriptorIndex := 82, attributes := #[] }, { accessFlags := 0, nameIndex := 68, descriptorIndex := 89, attributes := #[] }, { accessFlags := 0, nameIndex := 91, descriptorIndex := 92, attributes := #[] }, { accessFlags := 0, nameIndex := 93, descriptorIndex := 6, attributes := #[] }, { accessFlags := 2, nameIndex := 27, descriptorIndex := 28, attributes := #[] }] 48 2 #[] #[{ accessFlags := 26, nameIndex := 77, descriptorIndex := 24, attributes := #[] }, { accessFlags := 2, nameIndex := 13, descriptorIndex := 14, attributes := #[] }, { accessFlags := 2, nameIndex := 19, descriptorIndex := 20, attributes := #[] }, { accessFlags := 2, nameIndex := 23, descriptorIndex := 24, attributes := #[] }, { accessFlags := 2, nameIndex := 45, descriptorIndex := 46, attributes := #[] }])
  fields := #[{ name := "WALKED", type := .int, accessFlags := 26, slot := 0, constantValue := 0 }, { name := "names", type := (.array (.object "java/lang/String")), accessFlags := 2, slot := 0, constantValue := 0 }, { name := "values", type := (.array (.object "com/example/adjoinery/adjoinery/FeatureValue")), accessFlags := 2, slot := 1, constantValue := 0 }, { name := "size", type := .int, accessFlags := 2, slot := 2, constantValue := 0 }, { name := "positions", type := (.object "java/util/Map"), accessFlags := 2, slot := 3, constantValue := 0 }]
  methods := #[k3m0, k3m1, k3m2, k3m3, k3m4]
  instanceTypes := #[(.array (.object "java/lang/String")), (.array (.object "com/example/adjoinery/adjoinery/FeatureValue")), .int, (.object "java/util/Map")]
  staticTypes := #[.int]
  resolved := Array.replicate 96 none
  statics := none }

def pool4 : Array CpInfo := pool [(1, .class_ 2), (0, u "java/io/Serializable"), (0, .class_ 4), (0, u "java/lang/Object")] 2

/-- java/io/Serializable -/
def k4 : Class := { plain "java/io/Serializable" (some 0) with
  accessFlags := 1537
  interfaces := #[]
  cf := some (fileOf pool4 1 #[] #[] 1537 3 #[] #[])
  fields := #[]
  methods := #[]
  instanceTypes := #[]
  staticTypes := #[]
  resolved := Array.replicate 7 none
  statics := none }

def pool5 : Array CpInfo := pool [(1, .class_ 2), (0, u "java/lang/Comparable"), (0, .class_ 4), (0, u "java/lang/Object")] 7

/-- java/lang/Comparable -/
def k5 : Class := { plain "java/lang/Comparable" (some 0) with
  accessFlags := 1537
  interfaces := #[]
  cf := some (fileOf pool5 1 #[] #[] 1537 3 #[] #[])
  fields := #[]
  methods := #[]
  instanceTypes := #[]
  staticTypes := #[]
  resolved := Array.replicate 12 none
  statics := none }

def pool6 : Array CpInfo := pool [(2, .class_ 4), (1, u "java/lang/CharSequence"), (42, .class_ 48), (0, u "java/lang/CharSequence$1CodePointIterator"), (10, .class_ 60), (0, u "java/lang/CharSequence$1CharIterator"), (5, .class_ 67), (0, u "java/lang/Object")] 63

/-- java/lang/CharSequence -/
def k6 : Class := { plain "java/lang/CharSequence" (some 0) with
  accessFlags := 1537
  interfaces := #[]
  cf := some (fileOf pool6 2 #[.nestMembers #[47, 59]] #[] 1537 66 #[] #[])
  fields := #[]
  methods := #[]
  instanceTypes := #[]
  staticTypes := #[]
  resolved := Array.replicate 131 none
  statics := none }

def pool7 : Array CpInfo := pool [(1, .class_ 2), (0, u "java/lang/constant/Constable"), (0, .class_ 4), (0, u "java/lang/Object")] 6

/-- java/lang/constant/Constable -/
def k7 : Class := { plain "java/lang/constant/Constable" (some 0) with
  accessFlags := 1537
  interfaces := #[]
  cf := some (fileOf pool7 1 #[] #[] 1537 3 #[] #[])
  fields := #[]
  methods := #[]
  instanceTypes := #[]
  staticTypes := #[]
  resolved := Array.replicate 11 none
  statics := none }

def pool8 : Array CpInfo := pool [(1, .class_ 2), (0, u "java/lang/constant/ConstantDesc"), (0, .class_ 4), (0, u "java/lang/Object")] 32

/-- java/lang/constant/ConstantDesc -/
def k8 : Class := { plain "java/lang/constant/ConstantDesc" (some 0) with
  accessFlags := 1537
  interfaces := #[]
  cf := some (fileOf pool8 1 #[] #[] 1537 3 #[] #[])
  fields := #[]
  methods := #[]
  instanceTypes := #[]
  staticTypes := #[]
  resolved := Array.replicate 37 none
  statics := none }

def pool9 : Array CpInfo := pool [(1, .methodref 2 3), (0, .class_ 4), (0, .nameAndType 5 6), (0, u "java/lang/Object"), (0, u "<init>"), (0, u "()V"), (0, .string 8), (0, u ""), (0, .fieldref 10 11), (0, .class_ 12), (0, .nameAndType 13 14), (0, u "java/lang/String"), (0, u "value"), (0, u "[B"), (0, .fieldref 10 16), (0, .nameAndType 17 18), (0, u "coder"), (0, u "B"), (2, u "hash"), (0, u "I"), (2, u "hashIsZero"), (0, u "Z"), (0, .methodref 10 28), (0, .nameAndType 5 29), (0, u "([CIILjava/lang/Void;)V"), (8, .fieldref 10 39), (0, .nameAndType 40 26), (0, u "COMPACT_STRINGS"), (1, .class_ 44), (1, u "java/lang/StringUTF16"), (0, u "compress"), (1, .methodref 42 48), (0, .nameAndType 49 50), (0, u "coderFromArrayLen"), (0, u "([BI)B"), (2, u "toBytes"), (53, .class_ 109), (1, u "java/lang/StringLatin1"), (67, .methodref 42 178), (0, .nameAndType 45 179), (0, u "([CII)[B"), (29, .methodref 10 210), (0, .nameAndType 5 211), (0, u "([BB)V"), (157, u "(C)Z"), (173, u "equals"), (29, u "(Ljava/lang/Object;)Z"), (1, .class_ 576), (0, u "java/lang/CharSequence"), (22, u "CASE_INSENSITIVE_ORDER"), (0, u "Ljava/util/Comparator;"), (181, u "valueOf"), (0, u "(C)Ljava/lang/String;"), (226, u "([C)V"), (4, .methodref 107 1016), (0, .nameAndType 1017 369), (0, u "canEncode"), (0, .methodref 107 1019), (0, .nameAndType 53 1020), (0, u "(C)[B"), (80, u "serialPersistentFields"), (0, u "[Ljava/io/ObjectStreamField;"), (0, .class_ 1104), (0, u "java/lang/String$CaseInsensitiveComparator"), (1, .class_ 1107), (0, u "java/io/Serializable"), (0, .class_ 1109), (0, u "java/lang/Comparable"), (0, .class_ 1111), (0, u "java/lang/constant/Constable"), (0, .class_ 1113), (0, u "java/lang/constant/ConstantDesc"), (2, u "serialVersionUID"), (0, u "J"), (3, u "REPL"), (0, u "C"), (2, u "LATIN1"), (1, u "UTF16")] 323

def k9m0 : Method := { name := "<init>", desc := "()V", sig := { parameters := [], returnType := none }, accessFlags := 1, code := none }
def k9c1 : Code := { maxStack := 5, maxLocals := 2, code := jdk_42_method_3_code, exceptionTable := #[], attributes := #[] }
def k9m1 : Method := { name := "<init>", desc := "([C)V", sig := { parameters := [(.array .char)], returnType := none }, accessFlags := 1, code := some k9c1 }
def k9c2 : Code := { maxStack := 2, maxLocals := 3, code := jdk_42_method_66_code, exceptionTable := #[], attributes := #[] }
def k9m2 : Method := { name := "equals", desc := "(Ljava/lang/Object;)Z", sig := { parameters := [(.object "java/lang/Object")], returnType := some .boolean }, accessFlags := 1, code := some k9c2 }
def k9c3 : Code := { maxStack := 4, maxLocals := 1, code := jdk_42_method_139_code, exceptionTable := #[], attributes := #[] }
def k9m3 : Method := { name := "valueOf", desc := "(C)Ljava/lang/String;", sig := { parameters := [.char], returnType := some (.object "java/lang/String") }, accessFlags := 9, code := some k9c3 }
def k9c4 : Code := { maxStack := 4, maxLocals := 6, code := jdk_42_method_149_code, exceptionTable := #[], attributes := #[] }
def k9m4 : Method := { name := "<init>", desc := "([CIILjava/lang/Void;)V", sig := { parameters := [(.array .char), .int, .int, (.object "java/lang/Void")], returnType := none }, accessFlags := 2, code := some k9c4 }
def k9c5 : Code := { maxStack := 2, maxLocals := 3, code := jdk_42_method_151_code, exceptionTable := #[], attributes := #[] }
def k9m5 : Method := { name := "<init>", desc := "([BB)V", sig := { parameters := [(.array .byte), .byte], returnType := none }, accessFlags := 0, code := some k9c5 }
/-- java/lang/String -/
def k9 : Class := { plain "java/lang/String" (some 0) with
  accessFlags := 49
  interfaces := #[4, 5, 6, 7, 8]
  cf := some (fileOf pool9 10 #[.nestMembers #[1103]] #[{ accessFlags := 1, nameIndex := 5, descriptorIndex := 6, attributes := #[] }, { accessFlags := 1, nameIndex := 5, descriptorIndex := 1010, attributes := #[] }, { accessFlags := 1, nameIndex := 543, descriptorIndex := 573, attributes := #[] }, { accessFlags := 9, nameIndex := 782, descriptorIndex := 783, attributes := #[] }, { accessFlags := 2, nameIndex := 5, descriptorIndex := 29, attributes := #[] }, { accessFlags := 0, nameIndex := 5, descriptorIndex := 211, attributes := #[] }] 49 2 #[1106, 1108, 575, 1110, 1112] #[{ accessFlags := 18, nameIndex := 13, descriptorIndex := 14, attributes := #[] }, { accessFlags := 18, nameIndex := 17, descriptorIndex := 18, attributes := #[] }, { accessFlags := 2, nameIndex := 21, descriptorIndex := 22, attributes := #[] }, { accessFlags := 2, nameIndex := 25, descriptorIndex := 26, attributes := #[] }, { accessFlags := 26, nameIndex := 1116, descriptorIndex := 1117, attributes := #[] }, { accessFlags := 24, nameIndex := 40, descriptorIndex := 26, attributes := #[] }, { accessFlags := 26, nameIndex := 1101, descriptorIndex := 1102, attributes := #[] }, { accessFlags := 26, nameIndex := 1121, descriptorIndex := 1122, attributes := #[] }, { accessFlags := 25, nameIndex := 599, descriptorIndex := 600, attributes := #[] }, { accessFlags := 24, nameIndex := 1125, descriptorIndex := 18, attributes := #[] }, { accessFlags := 24, nameIndex := 1127, descriptorIndex := 18, attributes := #[] }])
  fields := #[{ name := "value", type := (.array .byte), accessFlags := 18, slot := 0, constantValue := 0 }, { name := "coder", type := .byte, accessFlags := 18, slot := 1, constantValue := 0 }, { name := "hash", type := .int, accessFlags := 2, slot := 2, constantValue := 0 }, { name := "hashIsZero", type := .boolean, accessFlags := 2, slot := 3, constantValue := 0 }, { name := "serialVersionUID", type := .long, accessFlags := 26, slot := 0, constantValue := 0 }, { name := "COMPACT_STRINGS", type := .boolean, accessFlags := 24, slot := 1, constantValue := 0 }, { name := "serialPersistentFields", type := (.array (.object "java/io/ObjectStreamField")), accessFlags := 26, slot := 2, constantValue := 0 }, { name := "REPL", type := .char, accessFlags := 26, slot := 3, constantValue := 0 }, { name := "CASE_INSENSITIVE_ORDER", type := (.object "java/util/Comparator"), accessFlags := 25, slot := 4, constantValue := 0 }, { name := "LATIN1", type := .byte, accessFlags := 24, slot := 5, constantValue := 0 }, { name := "UTF16", type := .byte, accessFlags := 24, slot := 6, constantValue := 0 }]
  methods := #[k9m0, k9m1, k9m2, k9m3, k9m4, k9m5]
  instanceTypes := #[(.array .byte), .byte, .int, .boolean]
  staticTypes := #[.long, .boolean, (.array (.object "java/io/ObjectStreamField")), .char, (.object "java/util/Comparator"), .byte, .byte]
  resolved := Array.replicate 1451 none
  statics := some 0 }

def pool10 : Array CpInfo := pool [(4, .class_ 6), (1, u "java/lang/Object"), (0, u "<init>"), (0, u "()V"), (5, .class_ 16), (1, u "java/lang/StringLatin1"), (73, u "canEncode"), (14, u "(C)Z"), (15, u "$assertionsDisabled"), (0, u "Z"), (98, .class_ 223), (1, u "java/lang/StringLatin1$LinesSpliterator"), (156, u "toBytes"), (1, u "(C)[B"), (7, .class_ 391), (0, u "java/lang/StringLatin1$CharsSpliterator")] 3

def k10m0 : Method := { name := "<init>", desc := "()V", sig := { parameters := [], returnType := none }, accessFlags := 0, code := none }
def k10c1 : Code := { maxStack := 2, maxLocals := 1, code := jdk_43_method_3_code, exceptionTable := #[], attributes := #[] }
def k10m1 : Method := { name := "canEncode", desc := "(C)Z", sig := { parameters := [.char], returnType := some .boolean }, accessFlags := 9, code := some k10c1 }
def k10c2 : Code := { maxStack := 4, maxLocals := 1, code := jdk_43_method_46_code, exceptionTable := #[], attributes := #[] }
def k10m2 : Method := { name := "toBytes", desc := "(C)[B", sig := { parameters := [.char], returnType := some (.array .byte) }, accessFlags := 9, code := some k10c2 }
/-- java/lang/StringLatin1 -/
def k10 : Class := { plain "java/lang/StringLatin1" (some 0) with
  accessFlags := 48
  interfaces := #[]
  cf := some (fileOf pool10 14 #[.nestMembers #[390, 221]] #[{ accessFlags := 0, nameIndex := 7, descriptorIndex := 8, attributes := #[] }, { accessFlags := 9, nameIndex := 90, descriptorIndex := 105, attributes := #[] }, { accessFlags := 9, nameIndex := 380, descriptorIndex := 382, attributes := #[] }] 48 4 #[] #[{ accessFlags := 4120, nameIndex := 121, descriptorIndex := 122, attributes := #[] }])
  fields := #[{ name := "$assertionsDisabled", type := .boolean, accessFlags := 4120, slot := 0, constantValue := 0 }]
  methods := #[k10m0, k10m1, k10m2]
  instanceTypes := #[]
  staticTypes := #[.boolean]
  resolved := Array.replicate 395 none
  statics := none }

def pool11 : Array CpInfo := pool [(2, .class_ 4), (1, u "java/lang/Object"), (0, u "<init>"), (0, u "()V"), (35, .class_ 44), (1, u "java/util/Objects"), (0, u "requireNonNull"), (0, u "(Ljava/lang/Object;)Ljava/lang/Object;"), (47, u "(Ljava/lang/Object;Ljava/lang/String;)Ljava/lang/Object;")] 89

def k11m0 : Method := { name := "<init>", desc := "()V", sig := { parameters := [], returnType := none }, accessFlags := 2, code := none }
def k11c1 : Code := { maxStack := 2, maxLocals := 1, code := jdk_31_method_10_code, exceptionTable := #[], attributes := #[] }
def k11m1 : Method := { name := "requireNonNull", desc := "(Ljava/lang/Object;)Ljava/lang/Object;", sig := { parameters := [(.object "java/lang/Object")], returnType := some (.object "java/lang/Object") }, accessFlags := 9, code := some k11c1 }
def k11c2 : Code := { maxStack := 3, maxLocals := 2, code := jdk_31_method_11_code, exceptionTable := #[], attributes := #[] }
def k11m2 : Method := { name := "requireNonNull", desc := "(Ljava/lang/Object;Ljava/lang/String;)Ljava/lang/Object;", sig := { parameters := [(.object "java/lang/Object"), (.object "java/lang/String")], returnType := some (.object "java/lang/Object") }, accessFlags := 9, code := some k11c2 }
/-- java/util/Objects -/
def k11 : Class := { plain "java/util/Objects" (some 0) with
  accessFlags := 49
  interfaces := #[]
  cf := some (fileOf pool11 42 #[] #[{ accessFlags := 2, nameIndex := 5, descriptorIndex := 6, attributes := #[] }, { accessFlags := 9, nameIndex := 45, descriptorIndex := 46, attributes := #[] }, { accessFlags := 9, nameIndex := 45, descriptorIndex := 94, attributes := #[] }] 49 2 #[] #[])
  fields := #[]
  methods := #[k11m0, k11m1, k11m2]
  instanceTypes := #[]
  staticTypes := #[]
  resolved := Array.replicate 184 none
  statics := none }

def pool12 : Array CpInfo := pool [(1, .methodref 2 3), (0, .class_ 4), (0, .nameAndType 5 6), (0, u "java/lang/Object"), (0, u "<init>"), (0, u "()V"), (0, .class_ 8), (0, u "java/util/ArrayList"), (0, .methodref 7 3), (0, .fieldref 11 12), (0, .class_ 13), (0, .nameAndType 14 15), (0, u "com/example/adjoinery/adjoinery/Trail"), (0, u "undos"), (0, u "Ljava/util/List;"), (0, .fieldref 11 17), (0, .nameAndType 18 15), (0, u "changed"), (0, .class_ 20), (0, u "java/util/ArrayDeque"), (0, .methodref 19 3), (0, .fieldref 11 23), (0, .nameAndType 24 25), (0, u "workStack"), (0, u "Ljava/util/Deque;"), (1, .class_ 29), (1, u "java/util/List"), (2, .interfaceMethodref 27 33), (0, .nameAndType 34 35), (0, u "add"), (0, u "(Ljava/lang/Object;)Z"), (31, u "record"), (0, u "(Lcom/example/adjoinery/adjoinery/FeatureValue;Ljava/lang/Runnable;)V")] 11

def k12c0 : Code := { maxStack := 3, maxLocals := 1, code := prog_65_method_1_code, exceptionTable := #[], attributes := #[] }
def k12m0 : Method := { name := "<init>", desc := "()V", sig := { parameters := [], returnType := none }, accessFlags := 0, code := some k12c0 }
def k12c1 : Code := { maxStack := 2, maxLocals := 3, code := prog_65_method_3_code, exceptionTable := #[], attributes := #[] }
def k12m1 : Method := { name := "record", desc := "(Lcom/example/adjoinery/adjoinery/FeatureValue;Ljava/lang/Runnable;)V", sig := { parameters := [(.object "com/example/adjoinery/adjoinery/FeatureValue"), (.object "java/lang/Runnable")], returnType := none }, accessFlags := 0, code := some k12c1 }
/-- com/example/adjoinery/adjoinery/Trail -/
def k12 : Class := { plain "com/example/adjoinery/adjoinery/Trail" (some 0) with
  accessFlags := 48
  interfaces := #[]
  cf := some (fileOf pool12 11 #[] #[{ accessFlags := 0, nameIndex := 5, descriptorIndex := 6, attributes := #[] }, { accessFlags := 0, nameIndex := 67, descriptorIndex := 68, attributes := #[] }] 48 2 #[] #[{ accessFlags := 18, nameIndex := 14, descriptorIndex := 15, attributes := #[] }, { accessFlags := 18, nameIndex := 18, descriptorIndex := 15, attributes := #[] }, { accessFlags := 18, nameIndex := 24, descriptorIndex := 25, attributes := #[] }])
  fields := #[{ name := "undos", type := (.object "java/util/List"), accessFlags := 18, slot := 0, constantValue := 0 }, { name := "changed", type := (.object "java/util/List"), accessFlags := 18, slot := 1, constantValue := 0 }, { name := "workStack", type := (.object "java/util/Deque"), accessFlags := 18, slot := 2, constantValue := 0 }]
  methods := #[k12m0, k12m1]
  instanceTypes := #[(.object "java/util/List"), (.object "java/util/List"), (.object "java/util/Deque")]
  staticTypes := #[]
  resolved := Array.replicate 80 none
  statics := none }

def pool13 : Array CpInfo := pool [(8, .class_ 10), (1, u "java/lang/Iterable"), (24, .class_ 36), (0, u "java/lang/Object")] 25

/-- java/lang/Iterable -/
def k13 : Class := { plain "java/lang/Iterable" (some 0) with
  accessFlags := 1537
  interfaces := #[]
  cf := some (fileOf pool13 8 #[] #[] 1537 35 #[] #[])
  fields := #[]
  methods := #[]
  instanceTypes := #[]
  staticTypes := #[]
  resolved := Array.replicate 62 none
  statics := none }

def pool14 : Array CpInfo := pool [(10, .class_ 12), (1, u "java/util/Collection"), (47, .class_ 61), (0, u "java/lang/Object"), (0, .class_ 63), (0, u "java/lang/Iterable")] 51

/-- java/util/Collection -/
def k14 : Class := { plain "java/util/Collection" (some 0) with
  accessFlags := 1537
  interfaces := #[13]
  cf := some (fileOf pool14 10 #[] #[] 1537 60 #[62] #[])
  fields := #[]
  methods := #[]
  instanceTypes := #[]
  staticTypes := #[]
  resolved := Array.replicate 115 none
  statics := none }

def pool15 : Array CpInfo := pool [(1, .methodref 2 3), (0, .class_ 4), (0, .nameAndType 5 6), (0, u "java/lang/Object"), (0, u "<init>"), (0, u "()V"), (1, .class_ 10), (1, u "java/util/AbstractCollection"), (66, .class_ 78), (0, u "java/util/Collection")] 81

def k15c0 : Code := { maxStack := 1, maxLocals := 1, code := jdk_22_method_1_code, exceptionTable := #[], attributes := #[] }
def k15m0 : Method := { name := "<init>", desc := "()V", sig := { parameters := [], returnType := none }, accessFlags := 4, code := some k15c0 }
/-- java/util/AbstractCollection -/
def k15 : Class := { plain "java/util/AbstractCollection" (some 0) with
  accessFlags := 1057
  interfaces := #[14]
  cf := some (fileOf pool15 8 #[] #[{ accessFlags := 4, nameIndex := 5, descriptorIndex := 6, attributes := #[] }] 1057 2 #[77] #[])
  fields := #[]
  methods := #[k15m0]
  instanceTypes := #[]
  staticTypes := #[]
  resolved := Array.replicate 160 none
  statics := none }

def pool16 : Array CpInfo := pool [(8, .class_ 10), (1, u "java/util/SequencedCollection"), (15, .class_ 27), (0, u "java/lang/Object"), (0, .class_ 29), (0, u "java/util/Collection")] 27

/-- java/util/SequencedCollection -/
def k16 : Class := { plain "java/util/SequencedCollection" (some 0) with
  accessFlags := 1537
  interfaces := #[14]
  cf := some (fileOf pool16 8 #[] #[] 1537 26 #[28] #[])
  fields := #[]
  methods := #[]
  instanceTypes := #[]
  staticTypes := #[]
  resolved := Array.replicate 57 none
  statics := none }

def pool17 : Array CpInfo := pool [(8, .class_ 10), (1, u "java/util/List"), (49, u "add"), (3, u "(Ljava/lang/Object;)Z"), (38, .class_ 104), (0, u "java/lang/Object"), (15, .class_ 121), (0, u "java/util/SequencedCollection")] 129

def k17m0 : Method := { name := "add", desc := "(Ljava/lang/Object;)Z", sig := { parameters := [(.object "java/lang/Object")], returnType := some .boolean }, accessFlags := 1025, code := none }
/-- java/util/List -/
def k17 : Class := { plain "java/util/List" (some 0) with
  accessFlags := 1537
  interfaces := #[16]
  cf := some (fileOf pool17 8 #[] #[{ accessFlags := 1025, nameIndex := 60, descriptorIndex := 64, attributes := #[] }] 1537 103 #[120] #[])
  fields := #[]
  methods := #[k17m0]
  instanceTypes := #[]
  staticTypes := #[]
  resolved := Array.replicate 251 none
  statics := none }

def pool18 : Array CpInfo := pool [(1, .methodref 2 3), (0, .class_ 4), (0, .nameAndType 5 6), (0, u "java/util/AbstractCollection"), (0, u "<init>"), (0, u "()V"), (0, .fieldref 8 9), (0, .class_ 10), (0, .nameAndType 11 12), (0, u "java/util/AbstractList"), (0, u "modCount"), (0, u "I"), (64, .class_ 78), (0, u "java/util/AbstractList$Itr"), (3, .class_ 83), (0, u "java/util/AbstractList$ListItr"), (9, .class_ 94), (0, u "java/util/AbstractList$RandomAccessSubList"), (3, .class_ 99), (0, u "java/util/AbstractList$SubList"), (33, .class_ 134), (0, u "java/util/List"), (73, .class_ 209), (0, u "java/util/AbstractList$SubList$1"), (0, .class_ 211), (0, u "java/util/AbstractList$RandomAccessSpliterator")] 6

def k18c0 : Code := { maxStack := 2, maxLocals := 1, code := jdk_39_method_1_code, exceptionTable := #[], attributes := #[] }
def k18m0 : Method := { name := "<init>", desc := "()V", sig := { parameters := [], returnType := none }, accessFlags := 4, code := some k18c0 }
/-- java/util/AbstractList -/
def k18 : Class := { plain "java/util/AbstractList" (some 15) with
  accessFlags := 1057
  interfaces := #[17]
  cf := some (fileOf pool18 8 #[.nestMembers #[93, 98, 208, 210, 82, 77]] #[{ accessFlags := 4, nameIndex := 5, descriptorIndex := 6, attributes := #[] }] 1057 2 #[133] #[{ accessFlags := 132, nameIndex := 11, descriptorIndex := 12, attributes := #[] }])
  fields := #[{ name := "modCount", type := .int, accessFlags := 132, slot := 0, constantValue := 0 }]
  methods := #[k18m0]
  instanceTypes := #[.int]
  staticTypes := #[]
  resolved := Array.replicate 218 none
  statics := none }

def pool19 : Array CpInfo := pool [(1, .class_ 2), (0, u "java/util/RandomAccess"), (0, .class_ 4), (0, u "java/lang/Object")] 2

/-- java/util/RandomAccess -/
def k19 : Class := { plain "java/util/RandomAccess" (some 0) with
  accessFlags := 1537
  interfaces := #[]
  cf := some (fileOf pool19 1 #[] #[] 1537 3 #[] #[])
  fields := #[]
  methods := #[]
  instanceTypes := #[]
  staticTypes := #[]
  resolved := Array.replicate 7 none
  statics := none }

def pool20 : Array CpInfo := pool [(1, .class_ 2), (0, u "java/lang/Cloneable"), (0, .class_ 4), (0, u "java/lang/Object")] 2

/-- java/lang/Cloneable -/
def k20 : Class := { plain "java/lang/Cloneable" (some 0) with
  accessFlags := 1537
  interfaces := #[]
  cf := some (fileOf pool20 1 #[] #[] 1537 3 #[] #[])
  fields := #[]
  methods := #[]
  instanceTypes := #[]
  staticTypes := #[]
  resolved := Array.replicate 7 none
  statics := none }

def pool21 : Array CpInfo := pool [(1, .methodref 2 3), (0, .class_ 4), (0, .nameAndType 5 6), (0, u "java/util/AbstractList"), (0, u "<init>"), (0, u "()V"), (0, .class_ 8), (0, u "java/lang/Object"), (0, .fieldref 10 11), (0, .class_ 12), (0, .nameAndType 13 14), (0, u "java/util/ArrayList"), (0, u "elementData"), (0, u "[Ljava/lang/Object;"), (2, u "EMPTY_ELEMENTDATA"), (21, .fieldref 10 40), (0, .nameAndType 41 14), (0, u "DEFAULTCAPACITY_EMPTY_ELEMENTDATA"), (5, u "()[Ljava/lang/Object;"), (0, .fieldref 10 49), (0, .nameAndType 50 51), (0, u "size"), (0, u "I"), (11, .fieldref 10 64), (0, .nameAndType 65 51), (0, u "modCount"), (3, .methodref 10 70), (0, .nameAndType 71 72), (0, u "grow"), (0, u "(I)[Ljava/lang/Object;"), (6, .methodref 80 81), (0, .class_ 82), (0, .nameAndType 83 84), (0, u "java/lang/Math"), (0, u "max"), (0, u "(II)I"), (11, u "(Ljava/lang/Object;)Z"), (32, .methodref 10 130), (0, .nameAndType 71 47), (0, .methodref 10 132), (0, .nameAndType 133 134), (0, u "add"), (0, u "(Ljava/lang/Object;[Ljava/lang/Object;I)V"), (13, .class_ 149), (0, u "java/util/List"), (112, .class_ 263), (0, u "java/util/ArrayList$ListItr"), (3, .class_ 268), (0, u "java/util/ArrayList$Itr"), (7, .class_ 277), (0, u "java/util/ArrayList$SubList"), (12, .class_ 291), (0, u "java/util/ArrayList$ArrayListSpliterator"), (37, .class_ 330), (0, u "java/util/RandomAccess"), (0, .class_ 332), (0, u "java/lang/Cloneable"), (0, .class_ 334), (0, u "java/io/Serializable"), (0, u "serialVersionUID"), (0, u "J"), (3, u "DEFAULT_CAPACITY"), (159, .class_ 501), (0, u "java/util/ArrayList$SubList$2"), (0, .class_ 503), (0, u "java/util/ArrayList$SubList$1")] 5

def k21c0 : Code := { maxStack := 2, maxLocals := 1, code := jdk_38_method_2_code, exceptionTable := #[], attributes := #[] }
def k21m0 : Method := { name := "<init>", desc := "()V", sig := { parameters := [], returnType := none }, accessFlags := 1, code := some k21c0 }
def k21c1 : Code := { maxStack := 4, maxLocals := 4, code := jdk_38_method_6_code, exceptionTable := #[], attributes := #[] }
def k21m1 : Method := { name := "grow", desc := "(I)[Ljava/lang/Object;", sig := { parameters := [.int], returnType := some (.array (.object "java/lang/Object")) }, accessFlags := 2, code := some k21c1 }
def k21c2 : Code := { maxStack := 3, maxLocals := 1, code := jdk_38_method_7_code, exceptionTable := #[], attributes := #[] }
def k21m2 : Method := { name := "grow", desc := "()[Ljava/lang/Object;", sig := { parameters := [], returnType := some (.array (.object "java/lang/Object")) }, accessFlags := 2, code := some k21c2 }
def k21c3 : Code := { maxStack := 3, maxLocals := 4, code := jdk_38_method_24_code, exceptionTable := #[], attributes := #[] }
def k21m3 : Method := { name := "add", desc := "(Ljava/lang/Object;[Ljava/lang/Object;I)V", sig := { parameters := [(.object "java/lang/Object"), (.array (.object "java/lang/Object")), .int], returnType := none }, accessFlags := 2, code := some k21c3 }
def k21c4 : Code := { maxStack := 4, maxLocals := 2, code := jdk_38_method_25_code, exceptionTable := #[], attributes := #[] }
def k21m4 : Method := { name := "add", desc := "(Ljava/lang/Object;)Z", sig := { parameters := [(.object "java/lang/Object")], returnType := some .boolean }, accessFlags := 1, code := some k21c4 }
/-- java/util/ArrayList -/
def k21 : Class := { plain "java/util/ArrayList" (some 18) with
  accessFlags := 33
  interfaces := #[17, 19, 20, 4]
  cf := some (fileOf pool21 10 #[.nestMembers #[290, 276, 500, 502, 262, 267]] #[{ accessFlags := 1, nameIndex := 5, descriptorIndex := 6, attributes := #[] }, { accessFlags := 2, nameIndex := 71, descriptorIndex := 72, attributes := #[] }, { accessFlags := 2, nameIndex := 71, descriptorIndex := 47, attributes := #[] }, { accessFlags := 2, nameIndex := 133, descriptorIndex := 134, attributes := #[] }, { accessFlags := 1, nameIndex := 133, descriptorIndex := 96, attributes := #[] }] 33 2 #[148, 329, 331, 333] #[{ accessFlags := 26, nameIndex := 335, descriptorIndex := 336, attributes := #[] }, { accessFlags := 26, nameIndex := 340, descriptorIndex := 51, attributes := #[] }, { accessFlags := 26, nameIndex := 17, descriptorIndex := 14, attributes := #[] }, { accessFlags := 26, nameIndex := 41, descriptorIndex := 14, attributes := #[] }, { accessFlags := 128, nameIndex := 13, descriptorIndex := 14, attributes := #[] }, { accessFlags := 2, nameIndex := 50, descriptorIndex := 51, attributes := #[] }])
  fields := #[{ name := "serialVersionUID", type := .long, accessFlags := 26, slot := 0, constantValue := 0 }, { name := "DEFAULT_CAPACITY", type := .int, accessFlags := 26, slot := 1, constantValue := 0 }, { name := "EMPTY_ELEMENTDATA", type := (.array (.object "java/lang/Object")), accessFlags := 26, slot := 2, constantValue := 0 }, { name := "DEFAULTCAPACITY_EMPTY_ELEMENTDATA", type := (.array (.object "java/lang/Object")), accessFlags := 26, slot := 3, constantValue := 0 }, { name := "elementData", type := (.array (.object "java/lang/Object")), accessFlags := 128, slot := 1, constantValue := 0 }, { name := "size", type := .int, accessFlags := 2, slot := 2, constantValue := 0 }]
  methods := #[k21m0, k21m1, k21m2, k21m3, k21m4]
  instanceTypes := #[.int, (.array (.object "java/lang/Object")), .int]
  staticTypes := #[.long, .int, (.array (.object "java/lang/Object")), (.array (.object "java/lang/Object"))]
  resolved := Array.replicate 509 none
  statics := some 1 }

def pool22 : Array CpInfo := pool [(1, .class_ 2), (0, u "java/util/Queue"), (0, .class_ 4), (0, u "java/lang/Object"), (0, .class_ 6), (0, u "java/util/Collection")] 14

/-- java/util/Queue -/
def k22 : Class := { plain "java/util/Queue" (some 0) with
  accessFlags := 1537
  interfaces := #[14]
  cf := some (fileOf pool22 1 #[] #[] 1537 3 #[5] #[])
  fields := #[]
  methods := #[]
  instanceTypes := #[]
  staticTypes := #[]
  resolved := Array.replicate 21 none
  statics := none }

def pool23 : Array CpInfo := pool [(8, .class_ 10), (1, u "java/util/Deque"), (2, .class_ 14), (0, u "java/lang/Object"), (0, .class_ 16), (0, u "java/util/Queue"), (0, .class_ 18), (0, u "java/util/SequencedCollection")] 51

/-- java/util/Deque -/
def k23 : Class := { plain "java/util/Deque" (some 0) with
  accessFlags := 1537
  interfaces := #[22, 16]
  cf := some (fileOf pool23 8 #[] #[] 1537 13 #[15, 17] #[])
  fields := #[]
  methods := #[]
  instanceTypes := #[]
  staticTypes := #[]
  resolved := Array.replicate 70 none
  statics := none }

def pool24 : Array CpInfo := pool [(3, .fieldref 4 5), (0, .class_ 6), (0, .nameAndType 7 8), (0, u "java/util/ArrayDeque"), (0, u "elements"), (0, u "[Ljava/lang/Object;"), (13, u "tail"), (0, u "I"), (2, u "head"), (12, u "<init>"), (2, .methodref 43 44), (0, .class_ 45), (0, .nameAndType 39 46), (0, u "java/util/AbstractCollection"), (0, u "()V"), (0, .class_ 48), (0, u "java/lang/Object"), (82, .class_ 132), (0, u "java/util/ArrayDeque$DeqIterator"), (3, .class_ 137), (0, u "java/util/ArrayDeque$DescendingIterator"), (1, .class_ 140), (0, u "java/util/ArrayDeque$DeqSpliterator"), (137, .class_ 279), (0, u "java/util/Deque"), (0, .class_ 281), (0, u "java/lang/Cloneable"), (0, .class_ 283), (0, u "java/io/Serializable"), (0, u "MAX_ARRAY_SIZE"), (1, u "serialVersionUID"), (0, u "J")] 150

def k24c0 : Code := { maxStack := 2, maxLocals := 1, code := jdk_21_method_3_code, exceptionTable := #[], attributes := #[] }
def k24m0 : Method := { name := "<init>", desc := "()V", sig := { parameters := [], returnType := none }, accessFlags := 1, code := some k24c0 }
/-- java/util/ArrayDeque -/
def k24 : Class := { plain "java/util/ArrayDeque" (some 15) with
  accessFlags := 33
  interfaces := #[23, 20, 4]
  cf := some (fileOf pool24 4 #[.nestMembers #[139, 136, 131]] #[{ accessFlags := 1, nameIndex := 39, descriptorIndex := 46, attributes := #[] }] 33 43 #[278, 280, 282] #[{ accessFlags := 128, nameIndex := 7, descriptorIndex := 8, attributes := #[] }, { accessFlags := 128, nameIndex := 26, descriptorIndex := 23, attributes := #[] }, { accessFlags := 128, nameIndex := 22, descriptorIndex := 23, attributes := #[] }, { accessFlags := 26, nameIndex := 284, descriptorIndex := 23, attributes := #[] }, { accessFlags := 26, nameIndex := 286, descriptorIndex := 287, attributes := #[] }])
  fields := #[{ name := "elements", type := (.array (.object "java/lang/Object")), accessFlags := 128, slot := 0, constantValue := 0 }, { name := "head", type := .int, accessFlags := 128, slot := 1, constantValue := 0 }, { name := "tail", type := .int, accessFlags := 128, slot := 2, constantValue := 0 }, { name := "MAX_ARRAY_SIZE", type := .int, accessFlags := 26, slot := 0, constantValue := 0 }, { name := "serialVersionUID", type := .long, accessFlags := 26, slot := 1, constantValue := 0 }]
  methods := #[k24m0]
  instanceTypes := #[(.array (.object "java/lang/Object")), .int, .int]
  staticTypes := #[.int, .long]
  resolved := Array.replicate 438 none
  statics := none }

def pool25 : Array CpInfo := pool [(1, .class_ 2), (0, u "java/lang/Runnable"), (0, .class_ 4), (0, u "java/lang/Object"), (0, u "run"), (0, u "()V")] 4

def k25m0 : Method := { name := "run", desc := "()V", sig := { parameters := [], returnType := none }, accessFlags := 1025, code := none }
/-- java/lang/Runnable -/
def k25 : Class := { plain "java/lang/Runnable" (some 0) with
  accessFlags := 1537
  interfaces := #[]
  cf := some (fileOf pool25 1 #[] #[{ accessFlags := 1025, nameIndex := 5, descriptorIndex := 6, attributes := #[] }] 1537 3 #[] #[])
  fields := #[]
  methods := #[k25m0]
  instanceTypes := #[]
  staticTypes := #[]
  resolved := Array.replicate 11 none
  statics := none }

def pool26 : Array CpInfo := pool [(1, .class_ 2), (0, u "java/lang/Math"), (1, .class_ 6), (1, u "java/lang/Object"), (0, u "<init>"), (0, u "()V"), (89, .class_ 100), (1, u "java/lang/Math$RandomNumberGeneratorHolder"), (71, u "negativeZeroFloatBits"), (0, u "J"), (2, u "negativeZeroDoubleBits"), (21, u "max"), (46, u "$assertionsDisabled"), (0, u "Z"), (88, u "(II)I"), (2, u "twoToTheDoubleScaleDown"), (0, u "D"), (4, u "twoToTheDoubleScaleUp"), (9, u "E"), (3, u "PI"), (2, u "TAU"), (2, u "DEGREES_TO_RADIANS"), (0, u "RADIANS_TO_DEGREES")] 94

def k26m0 : Method := { name := "<init>", desc := "()V", sig := { parameters := [], returnType := none }, accessFlags := 2, code := none }
def k26c1 : Code := { maxStack := 2, maxLocals := 2, code := jdk_29_method_65_code, exceptionTable := #[], attributes := #[] }
def k26m1 : Method := { name := "max", desc := "(II)I", sig := { parameters := [.int, .int], returnType := some .int }, accessFlags := 9, code := some k26c1 }
/-- java/lang/Math -/
def k26 : Class := { plain "java/lang/Math" (some 0) with
  accessFlags := 49
  interfaces := #[]
  cf := some (fileOf pool26 1 #[.nestMembers #[98]] #[{ accessFlags := 2, nameIndex := 7, descriptorIndex := 8, attributes := #[] }, { accessFlags := 9, nameIndex := 198, descriptorIndex := 335, attributes := #[] }] 49 4 #[] #[{ accessFlags := 25, nameIndex := 354, descriptorIndex := 339, attributes := #[] }, { accessFlags := 25, nameIndex := 358, descriptorIndex := 339, attributes := #[] }, { accessFlags := 25, nameIndex := 361, descriptorIndex := 339, attributes := #[] }, { accessFlags := 26, nameIndex := 364, descriptorIndex := 339, attributes := #[] }, { accessFlags := 26, nameIndex := 365, descriptorIndex := 339, attributes := #[] }, { accessFlags := 26, nameIndex := 172, descriptorIndex := 173, attributes := #[] }, { accessFlags := 26, nameIndex := 176, descriptorIndex := 173, attributes := #[] }, { accessFlags := 8, nameIndex := 344, descriptorIndex := 339, attributes := #[] }, { accessFlags := 8, nameIndex := 338, descriptorIndex := 339, attributes := #[] }, { accessFlags := 4120, nameIndex := 245, descriptorIndex := 246, attributes := #[] }])
  fields := #[{ name := "E", type := .double, accessFlags := 25, slot := 0, constantValue := 0 }, { name := "PI", type := .double, accessFlags := 25, slot := 1, constantValue := 0 }, { name := "TAU", type := .double, accessFlags := 25, slot := 2, constantValue := 0 }, { name := "DEGREES_TO_RADIANS", type := .double, accessFlags := 26, slot := 3, constantValue := 0 }, { name := "RADIANS_TO_DEGREES", type := .double, accessFlags := 26, slot := 4, constantValue := 0 }, { name := "negativeZeroFloatBits", type := .long, accessFlags := 26, slot := 5, constantValue := 0 }, { name := "negativeZeroDoubleBits", type := .long, accessFlags := 26, slot := 6, constantValue := 0 }, { name := "twoToTheDoubleScaleUp", type := .double, accessFlags := 8, slot := 7, constantValue := 0 }, { name := "twoToTheDoubleScaleDown", type := .double, accessFlags := 8, slot := 8, constantValue := 0 }, { name := "$assertionsDisabled", type := .boolean, accessFlags := 4120, slot := 9, constantValue := 0 }]
  methods := #[k26m0, k26m1]
  instanceTypes := #[]
  staticTypes := #[.double, .double, .double, .double, .double, .long, .long, .double, .double, .boolean]
  resolved := Array.replicate 460 none
  statics := none }

def pool27 : Array CpInfo := pool [(6, .class_ 8), (1, u "java/lang/Object"), (0, u "<init>"), (0, u "()V"), (1, .class_ 14), (1, u "java/lang/StringUTF16"), (31, u "$assertionsDisabled"), (0, u "Z"), (13, u "HI_BYTE_SHIFT"), (0, u "I"), (2, u "LO_BYTE_SHIFT"), (49, .methodref 12 116), (0, .nameAndType 117 118), (0, u "compress"), (0, u "([CI[BII)I"), (3, u "([CII)[B"), (138, u "coderFromArrayLen"), (0, u "([BI)B"), (106, .class_ 371), (1, u "java/lang/StringUTF16$LinesSpliterator"), (58, u "MAX_LENGTH"), (196, .class_ 628), (0, u "java/lang/StringUTF16$CodePointsSpliterator"), (0, .class_ 630), (0, u "java/lang/StringUTF16$CharsSpliterator")] 4

def k27m0 : Method := { name := "<init>", desc := "()V", sig := { parameters := [], returnType := none }, accessFlags := 0, code := none }
def k27c1 : Code := { maxStack := 2, maxLocals := 2, code := jdk_52_method_15_code, exceptionTable := #[], attributes := #[] }
def k27m1 : Method := { name := "coderFromArrayLen", desc := "([BI)B", sig := { parameters := [(.array .byte), .int], returnType := some .byte }, accessFlags := 8, code := some k27c1 }
def k27c2 : Code := { maxStack := 5, maxLocals := 6, code := jdk_52_method_16_code, exceptionTable := #[], attributes := #[] }
def k27m2 : Method := { name := "compress", desc := "([CII)[B", sig := { parameters := [(.array .char), .int, .int], returnType := some (.array .byte) }, accessFlags := 9, code := some k27c2 }
def k27c3 : Code := { maxStack := 3, maxLocals := 7, code := jdk_52_method_21_code, exceptionTable := #[], attributes := #[] }
def k27m3 : Method := { name := "compress", desc := "([CI[BII)I", sig := { parameters := [(.array .char), .int, (.array .byte), .int, .int], returnType := some .int }, accessFlags := 9, code := some k27c3 }
/-- java/lang/StringUTF16 -/
def k27 : Class := { plain "java/lang/StringUTF16" (some 0) with
  accessFlags := 48
  interfaces := #[]
  cf := some (fileOf pool27 12 #[.nestMembers #[627, 629, 369]] #[{ accessFlags := 0, nameIndex := 9, descriptorIndex := 10, attributes := #[] }, { accessFlags := 8, nameIndex := 261, descriptorIndex := 262, attributes := #[] }, { accessFlags := 9, nameIndex := 117, descriptorIndex := 122, attributes := #[] }, { accessFlags := 9, nameIndex := 117, descriptorIndex := 118, attributes := #[] }] 48 6 #[] #[{ accessFlags := 26, nameIndex := 61, descriptorIndex := 62, attributes := #[] }, { accessFlags := 26, nameIndex := 65, descriptorIndex := 62, attributes := #[] }, { accessFlags := 24, nameIndex := 430, descriptorIndex := 62, attributes := #[] }, { accessFlags := 4120, nameIndex := 46, descriptorIndex := 47, attributes := #[] }])
  fields := #[{ name := "HI_BYTE_SHIFT", type := .int, accessFlags := 26, slot := 0, constantValue := 0 }, { name := "LO_BYTE_SHIFT", type := .int, accessFlags := 26, slot := 1, constantValue := 0 }, { name := "MAX_LENGTH", type := .int, accessFlags := 24, slot := 2, constantValue := 0 }, { name := "$assertionsDisabled", type := .boolean, accessFlags := 4120, slot := 3, constantValue := 0 }]
  methods := #[k27m0, k27m1, k27m2, k27m3]
  instanceTypes := #[]
  staticTypes := #[.int, .int, .int, .boolean]
  resolved := Array.replicate 635 none
  statics := none }

def pool28 : Array CpInfo := pool [(2, .class_ 4), (1, u "java/lang/Object"), (0, u "<init>"), (0, u "()V"), (17, .class_ 26), (1, u "jdk/internal/util/Preconditions"), (28, .class_ 56), (0, u "jdk/internal/util/Preconditions$4"), (57, .class_ 115), (0, u "jdk/internal/util/Preconditions$1"), (7, u "SIOOBE_FORMATTER"), (0, u "Ljava/util/function/BiFunction;"), (0, .class_ 126), (0, u "jdk/internal/util/Preconditions$2"), (3, u "AIOOBE_FORMATTER"), (0, .class_ 132), (0, u "jdk/internal/util/Preconditions$3"), (3, u "IOOBE_FORMATTER")] 57

def k28m0 : Method := { name := "<init>", desc := "()V", sig := { parameters := [], returnType := none }, accessFlags := 1, code := none }
/-- jdk/internal/util/Preconditions -/
def k28 : Class := { plain "jdk/internal/util/Preconditions" (some 0) with
  accessFlags := 33
  interfaces := #[]
  cf := some (fileOf pool28 24 #[.nestMembers #[55, 131, 125, 114]] #[{ accessFlags := 1, nameIndex := 5, descriptorIndex := 6, attributes := #[] }] 33 2 #[] #[{ accessFlags := 25, nameIndex := 123, descriptorIndex := 124, attributes := #[] }, { accessFlags := 25, nameIndex := 130, descriptorIndex := 124, attributes := #[] }, { accessFlags := 25, nameIndex := 136, descriptorIndex := 124, attributes := #[] }])
  fields := #[{ name := "SIOOBE_FORMATTER", type := (.object "java/util/function/BiFunction"), accessFlags := 25, slot := 0, constantValue := 0 }, { name := "AIOOBE_FORMATTER", type := (.object "java/util/function/BiFunction"), accessFlags := 25, slot := 1, constantValue := 0 }, { name := "IOOBE_FORMATTER", type := (.object "java/util/function/BiFunction"), accessFlags := 25, slot := 2, constantValue := 0 }]
  methods := #[k28m0]
  instanceTypes := #[]
  staticTypes := #[(.object "java/util/function/BiFunction"), (.object "java/util/function/BiFunction"), (.object "java/util/function/BiFunction")]
  resolved := Array.replicate 194 none
  statics := some 2 }

def pool29 : Array CpInfo := pool [(9, u "<init>"), (6, .class_ 18), (1, u "java/lang/Object"), (0, u "()V"), (1, .class_ 23), (1, u "jdk/internal/util/ArraysSupport"), (0, u "LOG2_ARRAY_LONG_INDEX_SCALE"), (0, u "I"), (2, u "U"), (0, u "Ljdk/internal/misc/Unsafe;"), (8, u "BIG_ENDIAN"), (0, u "Z"), (8, u "LOG2_BYTE_BIT_SIZE"), (4, u "LOG2_ARRAY_INT_INDEX_SCALE"), (54, u "JLA"), (0, u "Ljdk/internal/access/JavaLangAccess;"), (11, u "LOG2_ARRAY_BOOLEAN_INDEX_SCALE"), (9, u "LOG2_ARRAY_BYTE_INDEX_SCALE"), (5, u "LOG2_ARRAY_CHAR_INDEX_SCALE"), (5, u "LOG2_ARRAY_SHORT_INDEX_SCALE"), (18, u "LOG2_ARRAY_FLOAT_INDEX_SCALE"), (24, u "LOG2_ARRAY_DOUBLE_INDEX_SCALE"), (89, u "T_BOOLEAN"), (2, u "T_CHAR"), (1, u "T_FLOAT"), (1, u "T_DOUBLE"), (1, u "T_BYTE"), (1, u "T_SHORT"), (1, u "T_INT"), (1, u "T_LONG"), (1, u "SOFT_MAX_ARRAY_LENGTH")] 83

def k29m0 : Method := { name := "<init>", desc := "()V", sig := { parameters := [], returnType := none }, accessFlags := 2, code := none }
/-- jdk/internal/util/ArraysSupport -/
def k29 : Class := { plain "jdk/internal/util/ArraysSupport" (some 0) with
  accessFlags := 33
  interfaces := #[]
  cf := some (fileOf pool29 21 #[] #[{ accessFlags := 2, nameIndex := 9, descriptorIndex := 19, attributes := #[] }] 33 16 #[] #[{ accessFlags := 24, nameIndex := 28, descriptorIndex := 29, attributes := #[] }, { accessFlags := 26, nameIndex := 38, descriptorIndex := 39, attributes := #[] }, { accessFlags := 25, nameIndex := 121, descriptorIndex := 25, attributes := #[] }, { accessFlags := 25, nameIndex := 131, descriptorIndex := 25, attributes := #[] }, { accessFlags := 25, nameIndex := 137, descriptorIndex := 25, attributes := #[] }, { accessFlags := 25, nameIndex := 143, descriptorIndex := 25, attributes := #[] }, { accessFlags := 25, nameIndex := 53, descriptorIndex := 25, attributes := #[] }, { accessFlags := 25, nameIndex := 24, descriptorIndex := 25, attributes := #[] }, { accessFlags := 25, nameIndex := 162, descriptorIndex := 25, attributes := #[] }, { accessFlags := 25, nameIndex := 187, descriptorIndex := 25, attributes := #[] }, { accessFlags := 26, nameIndex := 48, descriptorIndex := 25, attributes := #[] }, { accessFlags := 25, nameIndex := 277, descriptorIndex := 25, attributes := #[] }, { accessFlags := 25, nameIndex := 280, descriptorIndex := 25, attributes := #[] }, { accessFlags := 25, nameIndex := 282, descriptorIndex := 25, attributes := #[] }, { accessFlags := 25, nameIndex := 284, descriptorIndex := 25, attributes := #[] }, { accessFlags := 25, nameIndex := 286, descriptorIndex := 25, attributes := #[] }, { accessFlags := 25, nameIndex := 288, descriptorIndex := 25, attributes := #[] }, { accessFlags := 25, nameIndex := 290, descriptorIndex := 25, attributes := #[] }, { accessFlags := 25, nameIndex := 292, descriptorIndex := 25, attributes := #[] }, { accessFlags := 26, nameIndex := 108, descriptorIndex := 109, attributes := #[] }, { accessFlags := 25, nameIndex := 294, descriptorIndex := 25, attributes := #[] }])
  fields := #[{ name := "U", type := (.object "jdk/internal/misc/Unsafe"), accessFlags := 24, slot := 0, constantValue := 0 }, { name := "BIG_ENDIAN", type := .boolean, accessFlags := 26, slot := 1, constantValue := 0 }, { name := "LOG2_ARRAY_BOOLEAN_INDEX_SCALE", type := .int, accessFlags := 25, slot := 2, constantValue := 0 }, { name := "LOG2_ARRAY_BYTE_INDEX_SCALE", type := .int, accessFlags := 25, slot := 3, constantValue := 0 }, { name := "LOG2_ARRAY_CHAR_INDEX_SCALE", type := .int, accessFlags := 25, slot := 4, constantValue := 0 }, { name := "LOG2_ARRAY_SHORT_INDEX_SCALE", type := .int, accessFlags := 25, slot := 5, constantValue := 0 }, { name := "LOG2_ARRAY_INT_INDEX_SCALE", type := .int, accessFlags := 25, slot := 6, constantValue := 0 }, { name := "LOG2_ARRAY_LONG_INDEX_SCALE", type := .int, accessFlags := 25, slot := 7, constantValue := 0 }, { name := "LOG2_ARRAY_FLOAT_INDEX_SCALE", type := .int, accessFlags := 25, slot := 8, constantValue := 0 }, { name := "LOG2_ARRAY_DOUBLE_INDEX_SCALE", type := .int, accessFlags := 25, slot := 9, constantValue := 0 }, { name := "LOG2_BYTE_BIT_SIZE", type := .int, accessFlags := 26, slot := 10, constantValue := 0 }, { name := "T_BOOLEAN", type := .int, accessFlags := 25, slot := 11, constantValue := 0 }, { name := "T_CHAR", type := .int, accessFlags := 25, slot := 12, constantValue := 0 }, { name := "T_FLOAT", type := .int, accessFlags := 25, slot := 13, constantValue := 0 }, { name := "T_DOUBLE", type := .int, accessFlags := 25, slot := 14, constantValue := 0 }, { name := "T_BYTE", type := .int, accessFlags := 25, slot := 15, constantValue := 0 }, { name := "T_SHORT", type := .int, accessFlags := 25, slot := 16, constantValue := 0 }, { name := "T_INT", type := .int, accessFlags := 25, slot := 17, constantValue := 0 }, { name := "T_LONG", type := .int, accessFlags := 25, slot := 18, constantValue := 0 }, { name := "JLA", type := (.object "jdk/internal/access/JavaLangAccess"), accessFlags := 26, slot := 19, constantValue := 0 }, { name := "SOFT_MAX_ARRAY_LENGTH", type := .int, accessFlags := 25, slot := 20, constantValue := 0 }]
  methods := #[k29m0]
  instanceTypes := #[]
  staticTypes := #[(.object "jdk/internal/misc/Unsafe"), .boolean, .int, .int, .int, .int, .int, .int, .int, .int, .int, .int, .int, .int, .int, .int, .int, .int, .int, (.object "jdk/internal/access/JavaLangAccess"), .int]
  resolved := Array.replicate 378 none
  statics := none }

/-- the primitive byte -/
def k30 : Class := { plain "byte" none with kind := .primitive 'B', accessFlags := 0x411 }
/-- [B -/
def k31 : Class := { plain "[B" (some 0) with kind := .array 30 .byte, interfaces := #[20, 4], accessFlags := 1041 }

/-- the primitive char -/
def k32 : Class := { plain "char" none with kind := .primitive 'C', accessFlags := 0x411 }
/-- [C -/
def k33 : Class := { plain "[C" (some 0) with kind := .array 32 .char, interfaces := #[20, 4], accessFlags := 1041 }

/-- the primitive int -/
def k34 : Class := { plain "int" none with kind := .primitive 'I', accessFlags := 0x411 }
/-- [I -/
def k35 : Class := { plain "[I" (some 0) with kind := .array 34 .int, interfaces := #[20, 4], accessFlags := 1041 }

/-- [Lcom/example/adjoinery/adjoinery/FeatureValue; -/
def k36 : Class := { plain "[Lcom/example/adjoinery/adjoinery/FeatureValue;" (some 0) with kind := .array 2 (.object "com/example/adjoinery/adjoinery/FeatureValue"), interfaces := #[20, 4], accessFlags := 1041 }

/-- [Ljava/lang/Object; -/
def k37 : Class := { plain "[Ljava/lang/Object;" (some 0) with kind := .array 0 (.object "java/lang/Object"), interfaces := #[20, 4], accessFlags := 1041 }

/-- [Ljava/lang/String; -/
def k38 : Class := { plain "[Ljava/lang/String;" (some 0) with kind := .array 9 (.object "java/lang/String"), interfaces := #[20, 4], accessFlags := 1041 }

def classes0 : Array Class := #[k0, k1, k2, k3, k4, k5, k6, k7, k8, k9, k10, k11, k12, k13, k14, k15, k16, k17, k18, k19, k20, k21, k22, k23, k24, k25, k26, k27, k28, k29, k30, k31, k32, k33, k34, k35, k36, k37, k38]
/-- the class that the rule has made for the site at 35 of com/example/adjoinery/adjoinery/FeatureValue.putIfAbsent -/
def k39 : Class := Jvm.LamKit.madeRec { classes := classes0 } "com/example/adjoinery/adjoinery/FeatureValue" (Jvm.Lambda.Shape.mk "java/lang/Runnable" "run" (Jvm.ClassFile.MethodDescriptor.mk ([] : List Jvm.ClassFile.FieldType) (Option.none : Option Jvm.ClassFile.FieldType)) ([(Jvm.ClassFile.FieldType.object "com/example/adjoinery/adjoinery/FeatureList")] : List Jvm.ClassFile.FieldType) (5 : Nat) "com/example/adjoinery/adjoinery/FeatureList" "removeLast" (Jvm.ClassFile.MethodDescriptor.mk ([] : List Jvm.ClassFile.FieldType) (Option.none : Option Jvm.ClassFile.FieldType)) false (Jvm.ClassFile.MethodDescriptor.mk ([] : List Jvm.ClassFile.FieldType) (Option.none : Option Jvm.ClassFile.FieldType))) 39

def heap : Heap := #[{ cls := 9, slots := #[.long 0, .int 1, .null, .int 0, .null, .int 0, .int 0], vm := .statics 9 },
  { cls := 21, slots := #[.long 0, .int 0, .ref 3, .ref 4], vm := .statics 21 },
  { cls := 28, slots := #[.null, .null, .null], vm := .statics 28 },
  { cls := 37, slots := #[], vm := .none },
  { cls := 37, slots := #[], vm := .none }]
def classes : Array Class := #[k0, k1, k2, k3, k4, k5, k6, k7, k8, k9, k10, k11, k12, k13, k14, k15, k16, k17, k18, k19, k20, k21, k22, k23, k24, k25, k26, k27, k28, k29, k30, k31, k32, k33, k34, k35, k36, k37, k38, k39]
def interned : List (Array UInt16 × Addr) := []
def slotsUsed : Nat := 14
def theMethod : MethodId := ⟨1, 2⟩
def args0 : Array Value := #[.int 5, .int 7, .int 1, .int 1, .int 1]
def aboutOver (below : List Frame) : State where
  vm := { classes := classes, interned := interned.toArray }
  heap := heap
  slotsUsed := slotsUsed
  threads := #[{ frames := .invoking theMethod args0 :: below }]
def below0 : List Frame := [.native { method := ⟨0, 0⟩, args := #[] }]
def about1 : State := aboutOver below0
def p0 : Program := .bare "" "" ""
def e0 : Env := launch0.env 0 0 0
theorem w_frames : about1.frames = Frame.invoking theMethod args0 :: below0 := rfl
set_option maxRecDepth 65536 in
theorem w_args : argsFit about1.vm theMethod args0 = true := by decide +kernel
set_option maxRecDepth 65536 in
theorem w_heap : heapFits about1 = true := by decide +kernel
set_option maxRecDepth 65536 in
theorem w_runnable : about1.curStatus? = some .runnable := by decide +kernel
set_option maxRecDepth 65536 in
theorem w_alone : about1.alone = true := by decide +kernel
set_option maxRecDepth 65536 in
theorem w_named : about1.methodNamed? x = some theMethod := by decide +kernel
set_option maxRecDepth 65536 in
theorem w_hears : about1.hears theMethod below0 = true := by decide +kernel
set_option maxRecDepth 65536 in
theorem w_ripe : about1.ripe theMethod args0 below0 = true := by decide +kernel
theorem w_running : about1.status = .running := rfl
set_option maxRecDepth 65536 in
theorem w_room : about1.hasRoom e0.platform room_1 = true :=
  launch0.hasRoom_least _ room_1 (by decide +kernel) (by decide +kernel) (by decide +kernel) (by decide +kernel) (by decide +kernel) (by decide +kernel)
theorem allAtoms_all (ts : List Jvm.Cond) (a : Array Jvm.Value) (st : Jvm.State) : (allAtoms ts).before a st = ts.all (fun c => c.before a st) := by
  induction ts with
  | nil => rfl
  | cons c t ih =>
    show (Jvm.Cond.and c (allAtoms t)).before a st = _
    rw [Jvm.Cond.before_and, ih, List.all_cons]
def words1 : List Jvm.Cond := Jvm.Cond.code x code maxLocals ret :: tables_1
/-- a 'code' word, met by the world's own term for the bytes: nothing is compared byte by byte -/
theorem code_word {y : MethodName} {bytes : ByteArray} {mx : Nat} {rt : Option FieldType} {a : Array Value} {s : State} {m : MethodId} {meth : Method} {c : Code} (h1 : s.methodNamed? y = some m) (h2 : s.vm.method? m = some meth) (h3 : meth.code = some c) (h4 : c.code = bytes)
    (h5 : (c.maxLocals == mx && c.exceptionTable.isEmpty && decide (c.maxStack ≤ mostOperands) && decide (meth.sig.returnType = rt) && !meth.locks && decide (parseMethodDescriptor y.desc = some meth.sig)) = true) : (Jvm.Cond.code y bytes mx rt).before a s = true := by
  simp only [Bool.and_eq_true, beq_iff_eq, Bool.not_eq_true', decide_eq_true_eq] at h5
  obtain ⟨⟨⟨⟨⟨g1, g2⟩, g3⟩, g4⟩, g5⟩, g6⟩ := h5
  simp [Cond.before, Cond.holds, Cond.value, h1, h2, h3, h4, g1, g2, g3, g4, g5, g6]
def isCode : Jvm.Cond → Bool
  | .code _ _ _ _ => true
  | _ => false
theorem all_split {L : List Jvm.Cond} {P : Jvm.Cond → Bool} (h1 : L.all (fun c => isCode c || P c) = true) (h2 : ∀ c ∈ L.filter isCode, P c = true) : L.all P = true := by
  refine List.all_eq_true.mpr fun c hc => ?_
  have h := List.all_eq_true.mp h1 c hc
  rcases Bool.eq_false_or_eq_true (isCode c) with hi | hi
  · exact h2 c (List.mem_filter.mpr ⟨hc, hi⟩)
  · simpa [hi] using h
set_option maxRecDepth 65536 in
theorem w_c0 : (Jvm.Cond.code x code maxLocals ret).before args0 about1 = true := code_word (m := ⟨1, 2⟩) (meth := k1m2) (c := k1c2) (by decide +kernel) rfl rfl rfl (by decide +kernel)
set_option maxRecDepth 65536 in
theorem w_c1 : (Jvm.Cond.code mnS prog_22_method_5_code (0 : Nat) (Option.some (Jvm.ClassFile.FieldType.object "com/example/adjoinery/adjoinery/FeatureValue"))).before args0 about1 = true := code_word (m := ⟨2, 2⟩) (meth := k2m2) (c := k2c2) (by decide +kernel) rfl rfl rfl (by decide +kernel)
set_option maxRecDepth 65536 in
theorem w_c2 : (Jvm.Cond.code ({ cls := "com/example/adjoinery/adjoinery/FeatureList", name := "<init>", desc := "(I)V" } : Jvm.MethodName) prog_20_method_1_code (2 : Nat) (Option.none : Option Jvm.ClassFile.FieldType)).before args0 about1 = true := code_word (m := ⟨3, 0⟩) (meth := k3m0) (c := k3c0) (by decide +kernel) rfl rfl rfl (by decide +kernel)
set_option maxRecDepth 65536 in
theorem w_c3 : (Jvm.Cond.code ({ cls := "java/lang/Object", name := "<init>", desc := "()V" } : Jvm.MethodName) object_method_1_code (1 : Nat) (Option.none : Option Jvm.ClassFile.FieldType)).before args0 about1 = true := code_word (m := ⟨0, 0⟩) (meth := k0m0) (c := k0c0) (by decide +kernel) rfl rfl rfl (by decide +kernel)
set_option maxRecDepth 65536 in
theorem w_c4 : (Jvm.Cond.code ({ cls := "com/example/adjoinery/adjoinery/FeatureValue", name := "<init>", desc := "(Ljava/lang/String;Ljava/util/Set;Lcom/example/adjoinery/adjoinery/FeatureList;)V" } : Jvm.MethodName) prog_22_method_1_code (4 : Nat) (Option.none : Option Jvm.ClassFile.FieldType)).before args0 about1 = true := code_word (m := ⟨2, 0⟩) (meth := k2m0) (c := k2c0) (by decide +kernel) rfl rfl rfl (by decide +kernel)
set_option maxRecDepth 65536 in
theorem w_c5 : (Jvm.Cond.code ({ cls := "com/example/adjoinery/adjoinery/FeatureValueStructurePinLaw", name := "name", desc := "(IIII)Ljava/lang/String;" } : Jvm.MethodName) method_2_code (8 : Nat) (Option.some (Jvm.ClassFile.FieldType.object "java/lang/String"))).before args0 about1 = true := code_word (m := ⟨1, 1⟩) (meth := k1m1) (c := k1c1) (by decide +kernel) rfl rfl rfl (by decide +kernel)
set_option maxRecDepth 65536 in
theorem w_c6 : (Jvm.Cond.code ({ cls := "java/lang/String", name := "<init>", desc := "([C)V" } : Jvm.MethodName) jdk_42_method_3_code (2 : Nat) (Option.none : Option Jvm.ClassFile.FieldType)).before args0 about1 = true := code_word (m := ⟨9, 1⟩) (meth := k9m1) (c := k9c1) (by decide +kernel) rfl rfl rfl (by decide +kernel)
set_option maxRecDepth 65536 in
theorem w_c7 : (Jvm.Cond.code ({ cls := "java/lang/String", name := "<init>", desc := "([CIILjava/lang/Void;)V" } : Jvm.MethodName) jdk_42_method_149_code (6 : Nat) (Option.none : Option Jvm.ClassFile.FieldType)).before args0 about1 = true := code_word (m := ⟨9, 4⟩) (meth := k9m4) (c := k9c4) (by decide +kernel) rfl rfl rfl (by decide +kernel)
set_option maxRecDepth 65536 in
theorem w_c8 : (Jvm.Cond.code ({ cls := "java/lang/String", name := "valueOf", desc := "(C)Ljava/lang/String;" } : Jvm.MethodName) jdk_42_method_139_code (1 : Nat) (Option.some (Jvm.ClassFile.FieldType.object "java/lang/String"))).before args0 about1 = true := code_word (m := ⟨9, 3⟩) (meth := k9m3) (c := k9c3) (by decide +kernel) rfl rfl rfl (by decide +kernel)
set_option maxRecDepth 65536 in
theorem w_c9 : (Jvm.Cond.code ({ cls := "java/lang/StringLatin1", name := "canEncode", desc := "(C)Z" } : Jvm.MethodName) jdk_43_method_3_code (1 : Nat) (Option.some Jvm.ClassFile.FieldType.boolean)).before args0 about1 = true := code_word (m := ⟨10, 1⟩) (meth := k10m1) (c := k10c1) (by decide +kernel) rfl rfl rfl (by decide +kernel)
set_option maxRecDepth 65536 in
theorem w_c10 : (Jvm.Cond.code ({ cls := "java/lang/StringLatin1", name := "toBytes", desc := "(C)[B" } : Jvm.MethodName) jdk_43_method_46_code (1 : Nat) (Option.some (Jvm.ClassFile.FieldType.array Jvm.ClassFile.FieldType.byte))).before args0 about1 = true := code_word (m := ⟨10, 2⟩) (meth := k10m2) (c := k10c2) (by decide +kernel) rfl rfl rfl (by decide +kernel)
set_option maxRecDepth 65536 in
theorem w_c11 : (Jvm.Cond.code ({ cls := "java/lang/String", name := "<init>", desc := "([BB)V" } : Jvm.MethodName) jdk_42_method_151_code (3 : Nat) (Option.none : Option Jvm.ClassFile.FieldType)).before args0 about1 = true := code_word (m := ⟨9, 5⟩) (meth := k9m5) (c := k9c5) (by decide +kernel) rfl rfl rfl (by decide +kernel)
set_option maxRecDepth 65536 in
theorem w_c12 : (Jvm.Cond.code ({ cls := "com/example/adjoinery/adjoinery/FeatureValue", name := "atom", desc := "(Ljava/lang/String;)Lcom/example/adjoinery/adjoinery/FeatureValue;" } : Jvm.MethodName) prog_22_method_3_code (1 : Nat) (Option.some (Jvm.ClassFile.FieldType.object "com/example/adjoinery/adjoinery/FeatureValue"))).before args0 about1 = true := code_word (m := ⟨2, 1⟩) (meth := k2m1) (c := k2c1) (by decide +kernel) rfl rfl rfl (by decide +kernel)
set_option maxRecDepth 65536 in
theorem w_c13 : (Jvm.Cond.code ({ cls := "java/util/Objects", name := "requireNonNull", desc := "(Ljava/lang/Object;Ljava/lang/String;)Ljava/lang/Object;" } : Jvm.MethodName) jdk_31_method_11_code (2 : Nat) (Option.some (Jvm.ClassFile.FieldType.object "java/lang/Object"))).before args0 about1 = true := code_word (m := ⟨11, 2⟩) (meth := k11m2) (c := k11c2) (by decide +kernel) rfl rfl rfl (by decide +kernel)
set_option maxRecDepth 65536 in
theorem w_c14 : (Jvm.Cond.code ({ cls := "com/example/adjoinery/adjoinery/FeatureValue", name := "isStructure", desc := "()Z" } : Jvm.MethodName) prog_22_method_11_code (1 : Nat) (Option.some Jvm.ClassFile.FieldType.boolean)).before args0 about1 = true := code_word (m := ⟨2, 6⟩) (meth := k2m6) (c := k2c6) (by decide +kernel) rfl rfl rfl (by decide +kernel)
set_option maxRecDepth 65536 in
theorem w_c15 : (Jvm.Cond.code ({ cls := "com/example/adjoinery/adjoinery/FeatureValue", name := "resolve", desc := "()Lcom/example/adjoinery/adjoinery/FeatureValue;" } : Jvm.MethodName) prog_22_method_23_code (2 : Nat) (Option.some (Jvm.ClassFile.FieldType.object "com/example/adjoinery/adjoinery/FeatureValue"))).before args0 about1 = true := code_word (m := ⟨2, 10⟩) (meth := k2m10) (c := k2c10) (by decide +kernel) rfl rfl rfl (by decide +kernel)
set_option maxRecDepth 65536 in
theorem w_c16 : (Jvm.Cond.code ({ cls := "com/example/adjoinery/adjoinery/FeatureValue", name := "isUnbound", desc := "()Z" } : Jvm.MethodName) prog_22_method_10_code (1 : Nat) (Option.some Jvm.ClassFile.FieldType.boolean)).before args0 about1 = true := code_word (m := ⟨2, 5⟩) (meth := k2m5) (c := k2c5) (by decide +kernel) rfl rfl rfl (by decide +kernel)
set_option maxRecDepth 65536 in
theorem w_c17 : (Jvm.Cond.code ({ cls := "com/example/adjoinery/adjoinery/FeatureValue", name := "isVariable", desc := "()Z" } : Jvm.MethodName) prog_22_method_18_code (1 : Nat) (Option.some Jvm.ClassFile.FieldType.boolean)).before args0 about1 = true := code_word (m := ⟨2, 8⟩) (meth := k2m8) (c := k2c8) (by decide +kernel) rfl rfl rfl (by decide +kernel)
set_option maxRecDepth 65536 in
theorem w_c18 : (Jvm.Cond.code ({ cls := "com/example/adjoinery/adjoinery/FeatureValue", name := "atom", desc := "()Ljava/lang/String;" } : Jvm.MethodName) prog_22_method_6_code (1 : Nat) (Option.some (Jvm.ClassFile.FieldType.object "java/lang/String"))).before args0 about1 = true := code_word (m := ⟨2, 3⟩) (meth := k2m3) (c := k2c3) (by decide +kernel) rfl rfl rfl (by decide +kernel)
set_option maxRecDepth 65536 in
theorem w_c19 : (Jvm.Cond.code ({ cls := "com/example/adjoinery/adjoinery/FeatureValue", name := "feature", desc := "(Ljava/lang/String;)Lcom/example/adjoinery/adjoinery/FeatureValue;" } : Jvm.MethodName) prog_22_method_9_code (4 : Nat) (Option.some (Jvm.ClassFile.FieldType.object "com/example/adjoinery/adjoinery/FeatureValue"))).before args0 about1 = true := code_word (m := ⟨2, 4⟩) (meth := k2m4) (c := k2c4) (by decide +kernel) rfl rfl rfl (by decide +kernel)
set_option maxRecDepth 65536 in
theorem w_c20 : (Jvm.Cond.code ({ cls := "com/example/adjoinery/adjoinery/FeatureList", name := "get", desc := "(Ljava/lang/String;)Lcom/example/adjoinery/adjoinery/FeatureValue;" } : Jvm.MethodName) prog_20_method_5_code (3 : Nat) (Option.some (Jvm.ClassFile.FieldType.object "com/example/adjoinery/adjoinery/FeatureValue"))).before args0 about1 = true := code_word (m := ⟨3, 1⟩) (meth := k3m1) (c := k3c1) (by decide +kernel) rfl rfl rfl (by decide +kernel)
set_option maxRecDepth 65536 in
theorem w_c21 : (Jvm.Cond.code ({ cls := "com/example/adjoinery/adjoinery/FeatureList", name := "positionOf", desc := "(Ljava/lang/String;)I" } : Jvm.MethodName) prog_20_method_8_code (4 : Nat) (Option.some Jvm.ClassFile.FieldType.int)).before args0 about1 = true := code_word (m := ⟨3, 4⟩) (meth := k3m4) (c := k3c4) (by decide +kernel) rfl rfl rfl (by decide +kernel)
set_option maxRecDepth 65536 in
theorem w_c22 : (Jvm.Cond.code ({ cls := "com/example/adjoinery/adjoinery/Trail", name := "<init>", desc := "()V" } : Jvm.MethodName) prog_65_method_1_code (1 : Nat) (Option.none : Option Jvm.ClassFile.FieldType)).before args0 about1 = true := code_word (m := ⟨12, 0⟩) (meth := k12m0) (c := k12c0) (by decide +kernel) rfl rfl rfl (by decide +kernel)
set_option maxRecDepth 65536 in
theorem w_c23 : (Jvm.Cond.code ({ cls := "java/util/ArrayList", name := "<init>", desc := "()V" } : Jvm.MethodName) jdk_38_method_2_code (1 : Nat) (Option.none : Option Jvm.ClassFile.FieldType)).before args0 about1 = true := code_word (m := ⟨21, 0⟩) (meth := k21m0) (c := k21c0) (by decide +kernel) rfl rfl rfl (by decide +kernel)
set_option maxRecDepth 65536 in
theorem w_c24 : (Jvm.Cond.code ({ cls := "java/util/AbstractList", name := "<init>", desc := "()V" } : Jvm.MethodName) jdk_39_method_1_code (1 : Nat) (Option.none : Option Jvm.ClassFile.FieldType)).before args0 about1 = true := code_word (m := ⟨18, 0⟩) (meth := k18m0) (c := k18c0) (by decide +kernel) rfl rfl rfl (by decide +kernel)
set_option maxRecDepth 65536 in
theorem w_c25 : (Jvm.Cond.code ({ cls := "java/util/AbstractCollection", name := "<init>", desc := "()V" } : Jvm.MethodName) jdk_22_method_1_code (1 : Nat) (Option.none : Option Jvm.ClassFile.FieldType)).before args0 about1 = true := code_word (m := ⟨15, 0⟩) (meth := k15m0) (c := k15c0) (by decide +kernel) rfl rfl rfl (by decide +kernel)
set_option maxRecDepth 65536 in
theorem w_c26 : (Jvm.Cond.code ({ cls := "java/util/ArrayDeque", name := "<init>", desc := "()V" } : Jvm.MethodName) jdk_21_method_3_code (1 : Nat) (Option.none : Option Jvm.ClassFile.FieldType)).before args0 about1 = true := code_word (m := ⟨24, 0⟩) (meth := k24m0) (c := k24c0) (by decide +kernel) rfl rfl rfl (by decide +kernel)
set_option maxRecDepth 65536 in
theorem w_c27 : (Jvm.Cond.code ({ cls := "com/example/adjoinery/adjoinery/FeatureValue", name := "addFeature", desc := "(Ljava/lang/String;Lcom/example/adjoinery/adjoinery/FeatureValue;Lcom/example/adjoinery/adjoinery/Trail;)Z" } : Jvm.MethodName) prog_22_method_13_code (5 : Nat) (Option.some Jvm.ClassFile.FieldType.boolean)).before args0 about1 = true := code_word (m := ⟨2, 7⟩) (meth := k2m7) (c := k2c7) (by decide +kernel) rfl rfl rfl (by decide +kernel)
set_option maxRecDepth 65536 in
theorem w_c28 : (Jvm.Cond.code ({ cls := "com/example/adjoinery/adjoinery/FeatureValue", name := "putIfAbsent", desc := "(Ljava/lang/String;Lcom/example/adjoinery/adjoinery/FeatureValue;Lcom/example/adjoinery/adjoinery/Trail;)Lcom/example/adjoinery/adjoinery/FeatureValue;" } : Jvm.MethodName) prog_22_method_21_code (5 : Nat) (Option.some (Jvm.ClassFile.FieldType.object "com/example/adjoinery/adjoinery/FeatureValue"))).before args0 about1 = true := code_word (m := ⟨2, 9⟩) (meth := k2m9) (c := k2c9) (by decide +kernel) rfl rfl rfl (by decide +kernel)
set_option maxRecDepth 65536 in
theorem w_c29 : (Jvm.Cond.code ({ cls := "com/example/adjoinery/adjoinery/FeatureList", name := "add", desc := "(Ljava/lang/String;Lcom/example/adjoinery/adjoinery/FeatureValue;)V" } : Jvm.MethodName) prog_20_method_6_code (4 : Nat) (Option.none : Option Jvm.ClassFile.FieldType)).before args0 about1 = true := code_word (m := ⟨3, 2⟩) (meth := k3m2) (c := k3c2) (by decide +kernel) rfl rfl rfl (by decide +kernel)
set_option maxRecDepth 65536 in
theorem w_c30 : (Jvm.Cond.code ({ cls := "java/util/Objects", name := "requireNonNull", desc := "(Ljava/lang/Object;)Ljava/lang/Object;" } : Jvm.MethodName) jdk_31_method_10_code (1 : Nat) (Option.some (Jvm.ClassFile.FieldType.object "java/lang/Object"))).before args0 about1 = true := code_word (m := ⟨11, 1⟩) (meth := k11m1) (c := k11c1) (by decide +kernel) rfl rfl rfl (by decide +kernel)
set_option maxRecDepth 65536 in
theorem w_c31 : (Jvm.Cond.code ({ cls := "com/example/adjoinery/adjoinery/Trail", name := "record", desc := "(Lcom/example/adjoinery/adjoinery/FeatureValue;Ljava/lang/Runnable;)V" } : Jvm.MethodName) prog_65_method_3_code (3 : Nat) (Option.none : Option Jvm.ClassFile.FieldType)).before args0 about1 = true := code_word (m := ⟨12, 1⟩) (meth := k12m1) (c := k12c1) (by decide +kernel) rfl rfl rfl (by decide +kernel)
set_option maxRecDepth 65536 in
theorem w_c32 : (Jvm.Cond.code ({ cls := "java/util/ArrayList", name := "add", desc := "(Ljava/lang/Object;)Z" } : Jvm.MethodName) jdk_38_method_25_code (2 : Nat) (Option.some Jvm.ClassFile.FieldType.boolean)).before args0 about1 = true := code_word (m := ⟨21, 4⟩) (meth := k21m4) (c := k21c4) (by decide +kernel) rfl rfl rfl (by decide +kernel)
set_option maxRecDepth 65536 in
theorem w_c33 : (Jvm.Cond.code ({ cls := "java/util/ArrayList", name := "add", desc := "(Ljava/lang/Object;[Ljava/lang/Object;I)V" } : Jvm.MethodName) jdk_38_method_24_code (4 : Nat) (Option.none : Option Jvm.ClassFile.FieldType)).before args0 about1 = true := code_word (m := ⟨21, 3⟩) (meth := k21m3) (c := k21c3) (by decide +kernel) rfl rfl rfl (by decide +kernel)
set_option maxRecDepth 65536 in
theorem w_c34 : (Jvm.Cond.code ({ cls := "java/util/ArrayList", name := "grow", desc := "()[Ljava/lang/Object;" } : Jvm.MethodName) jdk_38_method_7_code (1 : Nat) (Option.some (Jvm.ClassFile.FieldType.array (Jvm.ClassFile.FieldType.object "java/lang/Object")))).before args0 about1 = true := code_word (m := ⟨21, 2⟩) (meth := k21m2) (c := k21c2) (by decide +kernel) rfl rfl rfl (by decide +kernel)
set_option maxRecDepth 65536 in
theorem w_c35 : (Jvm.Cond.code ({ cls := "java/util/ArrayList", name := "grow", desc := "(I)[Ljava/lang/Object;" } : Jvm.MethodName) jdk_38_method_6_code (4 : Nat) (Option.some (Jvm.ClassFile.FieldType.array (Jvm.ClassFile.FieldType.object "java/lang/Object")))).before args0 about1 = true := code_word (m := ⟨21, 1⟩) (meth := k21m1) (c := k21c1) (by decide +kernel) rfl rfl rfl (by decide +kernel)
set_option maxRecDepth 65536 in
theorem w_c36 : (Jvm.Cond.code ({ cls := "java/lang/Math", name := "max", desc := "(II)I" } : Jvm.MethodName) jdk_29_method_65_code (2 : Nat) (Option.some Jvm.ClassFile.FieldType.int)).before args0 about1 = true := code_word (m := ⟨26, 1⟩) (meth := k26m1) (c := k26c1) (by decide +kernel) rfl rfl rfl (by decide +kernel)
set_option maxRecDepth 65536 in
theorem w_c37 : (Jvm.Cond.code ({ cls := "java/lang/String", name := "equals", desc := "(Ljava/lang/Object;)Z" } : Jvm.MethodName) jdk_42_method_66_code (3 : Nat) (Option.some Jvm.ClassFile.FieldType.boolean)).before args0 about1 = true := code_word (m := ⟨9, 2⟩) (meth := k9m2) (c := k9c2) (by decide +kernel) rfl rfl rfl (by decide +kernel)
set_option maxRecDepth 65536 in
theorem w_c38 : (Jvm.Cond.code ({ cls := "java/lang/StringUTF16", name := "compress", desc := "([CII)[B" } : Jvm.MethodName) jdk_52_method_16_code (6 : Nat) (Option.some (Jvm.ClassFile.FieldType.array Jvm.ClassFile.FieldType.byte))).before args0 about1 = true := code_word (m := ⟨27, 2⟩) (meth := k27m2) (c := k27c2) (by decide +kernel) rfl rfl rfl (by decide +kernel)
set_option maxRecDepth 65536 in
theorem w_c39 : (Jvm.Cond.code ({ cls := "java/lang/StringUTF16", name := "compress", desc := "([CI[BII)I" } : Jvm.MethodName) jdk_52_method_21_code (7 : Nat) (Option.some Jvm.ClassFile.FieldType.int)).before args0 about1 = true := code_word (m := ⟨27, 3⟩) (meth := k27m3) (c := k27c3) (by decide +kernel) rfl rfl rfl (by decide +kernel)
set_option maxRecDepth 65536 in
theorem w_c40 : (Jvm.Cond.code ({ cls := "java/lang/StringUTF16", name := "coderFromArrayLen", desc := "([BI)B" } : Jvm.MethodName) jdk_52_method_15_code (2 : Nat) (Option.some Jvm.ClassFile.FieldType.byte)).before args0 about1 = true := code_word (m := ⟨27, 1⟩) (meth := k27m1) (c := k27c1) (by decide +kernel) rfl rfl rfl (by decide +kernel)
def codes1 : List Jvm.Cond := [Jvm.Cond.code x code maxLocals ret, Jvm.Cond.code mnS prog_22_method_5_code (0 : Nat) (Option.some (Jvm.ClassFile.FieldType.object "com/example/adjoinery/adjoinery/FeatureValue")), Jvm.Cond.code ({ cls := "com/example/adjoinery/adjoinery/FeatureList", name := "<init>", desc := "(I)V" } : Jvm.MethodName) prog_20_method_1_code (2 : Nat) (Option.none : Option Jvm.ClassFile.FieldType), Jvm.Cond.code ({ cls := "java/lang/Object", name := "<init>", desc := "()V" } : Jvm.MethodName) object_method_1_code (1 : Nat) (Option.none : Option Jvm.ClassFile.FieldType), Jvm.Cond.code ({ cls := "com/example/adjoinery/adjoinery/FeatureValue", name := "<init>", desc := "(Ljava/lang/String;Ljava/util/Set;Lcom/example/adjoinery/adjoinery/FeatureList;)V" } : Jvm.MethodName) prog_22_method_1_code (4 : Nat) (Option.none : Option Jvm.ClassFile.FieldType), Jvm.Cond.code ({ cls := "com/example/adjoinery/adjoinery/FeatureValueStructurePinLaw", name := "name", desc := "(IIII)Ljava/lang/String;" } : Jvm.MethodName) method_2_code (8 : Nat) (Option.some (Jvm.ClassFile.FieldType.object "java/lang/String")), Jvm.Cond.code ({ cls := "java/lang/String", name := "<init>", desc := "([C)V" } : Jvm.MethodName) jdk_42_method_3_code (2 : Nat) (Option.none : Option Jvm.ClassFile.FieldType), Jvm.Cond.code ({ cls := "java/lang/String", name := "<init>", desc := "([CIILjava/lang/Void;)V" } : Jvm.MethodName) jdk_42_method_149_code (6 : Nat) (Option.none : Option Jvm.ClassFile.FieldType), Jvm.Cond.code ({ cls := "java/lang/String", name := "valueOf", desc := "(C)Ljava/lang/String;" } : Jvm.MethodName) jdk_42_method_139_code (1 : Nat) (Option.some (Jvm.ClassFile.FieldType.object "java/lang/String")), Jvm.Cond.code ({ cls := "java/lang/StringLatin1", name := "canEncode", desc := "(C)Z" } : Jvm.MethodName) jdk_43_method_3_code (1 : Nat) (Option.some Jvm.ClassFile.FieldType.boolean), Jvm.Cond.code ({ cls := "java/lang/StringLatin1", name := "toBytes", desc := "(C)[B" } : Jvm.MethodName) jdk_43_method_46_code (1 : Nat) (Option.some (Jvm.ClassFile.FieldType.array Jvm.ClassFile.FieldType.byte)), Jvm.Cond.code ({ cls := "java/lang/String", name := "<init>", desc := "([BB)V" } : Jvm.MethodName) jdk_42_method_151_code (3 : Nat) (Option.none : Option Jvm.ClassFile.FieldType), Jvm.Cond.code ({ cls := "com/example/adjoinery/adjoinery/FeatureValue", name := "atom", desc := "(Ljava/lang/String;)Lcom/example/adjoinery/adjoinery/FeatureValue;" } : Jvm.MethodName) prog_22_method_3_code (1 : Nat) (Option.some (Jvm.ClassFile.FieldType.object "com/example/adjoinery/adjoinery/FeatureValue")), Jvm.Cond.code ({ cls := "java/util/Objects", name := "requireNonNull", desc := "(Ljava/lang/Object;Ljava/lang/String;)Ljava/lang/Object;" } : Jvm.MethodName) jdk_31_method_11_code (2 : Nat) (Option.some (Jvm.ClassFile.FieldType.object "java/lang/Object")), Jvm.Cond.code ({ cls := "com/example/adjoinery/adjoinery/FeatureValue", name := "isStructure", desc := "()Z" } : Jvm.MethodName) prog_22_method_11_code (1 : Nat) (Option.some Jvm.ClassFile.FieldType.boolean), Jvm.Cond.code ({ cls := "com/example/adjoinery/adjoinery/FeatureValue", name := "resolve", desc := "()Lcom/example/adjoinery/adjoinery/FeatureValue;" } : Jvm.MethodName) prog_22_method_23_code (2 : Nat) (Option.some (Jvm.ClassFile.FieldType.object "com/example/adjoinery/adjoinery/FeatureValue")), Jvm.Cond.code ({ cls := "com/example/adjoinery/adjoinery/FeatureValue", name := "isUnbound", desc := "()Z" } : Jvm.MethodName) prog_22_method_10_code (1 : Nat) (Option.some Jvm.ClassFile.FieldType.boolean), Jvm.Cond.code ({ cls := "com/example/adjoinery/adjoinery/FeatureValue", name := "isVariable", desc := "()Z" } : Jvm.MethodName) prog_22_method_18_code (1 : Nat) (Option.some Jvm.ClassFile.FieldType.boolean), Jvm.Cond.code ({ cls := "com/example/adjoinery/adjoinery/FeatureValue", name := "atom", desc := "()Ljava/lang/String;" } : Jvm.MethodName) prog_22_method_6_code (1 : Nat) (Option.some (Jvm.ClassFile.FieldType.object "java/lang/String")), Jvm.Cond.code ({ cls := "com/example/adjoinery/adjoinery/FeatureValue", name := "feature", desc := "(Ljava/lang/String;)Lcom/example/adjoinery/adjoinery/FeatureValue;" } : Jvm.MethodName) prog_22_method_9_code (4 : Nat) (Option.some (Jvm.ClassFile.FieldType.object "com/example/adjoinery/adjoinery/FeatureValue")), Jvm.Cond.code ({ cls := "com/example/adjoinery/adjoinery/FeatureList", name := "get", desc := "(Ljava/lang/String;)Lcom/example/adjoinery/adjoinery/FeatureValue;" } : Jvm.MethodName) prog_20_method_5_code (3 : Nat) (Option.some (Jvm.ClassFile.FieldType.object "com/example/adjoinery/adjoinery/FeatureValue")), Jvm.Cond.code ({ cls := "com/example/adjoinery/adjoinery/FeatureList", name := "positionOf", desc := "(Ljava/lang/String;)I" } : Jvm.MethodName) prog_20_method_8_code (4 : Nat) (Option.some Jvm.ClassFile.FieldType.int), Jvm.Cond.code ({ cls := "com/example/adjoinery/adjoinery/Trail", name := "<init>", desc := "()V" } : Jvm.MethodName) prog_65_method_1_code (1 : Nat) (Option.none : Option Jvm.ClassFile.FieldType), Jvm.Cond.code ({ cls := "java/util/ArrayList", name := "<init>", desc := "()V" } : Jvm.MethodName) jdk_38_method_2_code (1 : Nat) (Option.none : Option Jvm.ClassFile.FieldType), Jvm.Cond.code ({ cls := "java/util/AbstractList", name := "<init>", desc := "()V" } : Jvm.MethodName) jdk_39_method_1_code (1 : Nat) (Option.none : Option Jvm.ClassFile.FieldType), Jvm.Cond.code ({ cls := "java/util/AbstractCollection", name := "<init>", desc := "()V" } : Jvm.MethodName) jdk_22_method_1_code (1 : Nat) (Option.none : Option Jvm.ClassFile.FieldType), Jvm.Cond.code ({ cls := "java/util/ArrayDeque", name := "<init>", desc := "()V" } : Jvm.MethodName) jdk_21_method_3_code (1 : Nat) (Option.none : Option Jvm.ClassFile.FieldType), Jvm.Cond.code ({ cls := "com/example/adjoinery/adjoinery/FeatureValue", name := "addFeature", desc := "(Ljava/lang/String;Lcom/example/adjoinery/adjoinery/FeatureValue;Lcom/example/adjoinery/adjoinery/Trail;)Z" } : Jvm.MethodName) prog_22_method_13_code (5 : Nat) (Option.some Jvm.ClassFile.FieldType.boolean), Jvm.Cond.code ({ cls := "com/example/adjoinery/adjoinery/FeatureValue", name := "putIfAbsent", desc := "(Ljava/lang/String;Lcom/example/adjoinery/adjoinery/FeatureValue;Lcom/example/adjoinery/adjoinery/Trail;)Lcom/example/adjoinery/adjoinery/FeatureValue;" } : Jvm.MethodName) prog_22_method_21_code (5 : Nat) (Option.some (Jvm.ClassFile.FieldType.object "com/example/adjoinery/adjoinery/FeatureValue")), Jvm.Cond.code ({ cls := "com/example/adjoinery/adjoinery/FeatureList", name := "add", desc := "(Ljava/lang/String;Lcom/example/adjoinery/adjoinery/FeatureValue;)V" } : Jvm.MethodName) prog_20_method_6_code (4 : Nat) (Option.none : Option Jvm.ClassFile.FieldType), Jvm.Cond.code ({ cls := "java/util/Objects", name := "requireNonNull", desc := "(Ljava/lang/Object;)Ljava/lang/Object;" } : Jvm.MethodName) jdk_31_method_10_code (1 : Nat) (Option.some (Jvm.ClassFile.FieldType.object "java/lang/Object")), Jvm.Cond.code ({ cls := "com/example/adjoinery/adjoinery/Trail", name := "record", desc := "(Lcom/example/adjoinery/adjoinery/FeatureValue;Ljava/lang/Runnable;)V" } : Jvm.MethodName) prog_65_method_3_code (3 : Nat) (Option.none : Option Jvm.ClassFile.FieldType), Jvm.Cond.code ({ cls := "java/util/ArrayList", name := "add", desc := "(Ljava/lang/Object;)Z" } : Jvm.MethodName) jdk_38_method_25_code (2 : Nat) (Option.some Jvm.ClassFile.FieldType.boolean), Jvm.Cond.code ({ cls := "java/util/ArrayList", name := "add", desc := "(Ljava/lang/Object;[Ljava/lang/Object;I)V" } : Jvm.MethodName) jdk_38_method_24_code (4 : Nat) (Option.none : Option Jvm.ClassFile.FieldType), Jvm.Cond.code ({ cls := "java/util/ArrayList", name := "grow", desc := "()[Ljava/lang/Object;" } : Jvm.MethodName) jdk_38_method_7_code (1 : Nat) (Option.some (Jvm.ClassFile.FieldType.array (Jvm.ClassFile.FieldType.object "java/lang/Object"))), Jvm.Cond.code ({ cls := "java/util/ArrayList", name := "grow", desc := "(I)[Ljava/lang/Object;" } : Jvm.MethodName) jdk_38_method_6_code (4 : Nat) (Option.some (Jvm.ClassFile.FieldType.array (Jvm.ClassFile.FieldType.object "java/lang/Object"))), Jvm.Cond.code ({ cls := "java/lang/Math", name := "max", desc := "(II)I" } : Jvm.MethodName) jdk_29_method_65_code (2 : Nat) (Option.some Jvm.ClassFile.FieldType.int), Jvm.Cond.code ({ cls := "java/lang/String", name := "equals", desc := "(Ljava/lang/Object;)Z" } : Jvm.MethodName) jdk_42_method_66_code (3 : Nat) (Option.some Jvm.ClassFile.FieldType.boolean), Jvm.Cond.code ({ cls := "java/lang/StringUTF16", name := "compress", desc := "([CII)[B" } : Jvm.MethodName) jdk_52_method_16_code (6 : Nat) (Option.some (Jvm.ClassFile.FieldType.array Jvm.ClassFile.FieldType.byte)), Jvm.Cond.code ({ cls := "java/lang/StringUTF16", name := "compress", desc := "([CI[BII)I" } : Jvm.MethodName) jdk_52_method_21_code (7 : Nat) (Option.some Jvm.ClassFile.FieldType.int), Jvm.Cond.code ({ cls := "java/lang/StringUTF16", name := "coderFromArrayLen", desc := "([BI)B" } : Jvm.MethodName) jdk_52_method_15_code (2 : Nat) (Option.some Jvm.ClassFile.FieldType.byte)]
set_option maxRecDepth 65536 in
theorem codes_eq : words1.filter isCode = codes1 := rfl
theorem w_codes : ∀ c ∈ words1.filter isCode, c.before args0 about1 = true := by
  rw [codes_eq]
  intro c hc
  simp only [codes1, List.mem_cons, List.not_mem_nil, or_false] at hc
  rcases hc with rfl | rfl | rfl | rfl | rfl | rfl | rfl | rfl | rfl | rfl | rfl | rfl | rfl | rfl | rfl | rfl | rfl | rfl | rfl | rfl | rfl | rfl | rfl | rfl | rfl | rfl | rfl | rfl | rfl | rfl | rfl | rfl | rfl | rfl | rfl | rfl | rfl | rfl | rfl | rfl | rfl
  · exact w_c0
  · exact w_c1
  · exact w_c2
  · exact w_c3
  · exact w_c4
  · exact w_c5
  · exact w_c6
  · exact w_c7
  · exact w_c8
  · exact w_c9
  · exact w_c10
  · exact w_c11
  · exact w_c12
  · exact w_c13
  · exact w_c14
  · exact w_c15
  · exact w_c16
  · exact w_c17
  · exact w_c18
  · exact w_c19
  · exact w_c20
  · exact w_c21
  · exact w_c22
  · exact w_c23
  · exact w_c24
  · exact w_c25
  · exact w_c26
  · exact w_c27
  · exact w_c28
  · exact w_c29
  · exact w_c30
  · exact w_c31
  · exact w_c32
  · exact w_c33
  · exact w_c34
  · exact w_c35
  · exact w_c36
  · exact w_c37
  · exact w_c38
  · exact w_c39
  · exact w_c40
set_option maxRecDepth 65536 in
theorem w_t1 : (words1.take 24).all (fun c => isCode c || c.before args0 about1) = true := by decide +kernel
set_option maxRecDepth 65536 in
theorem w_t2 : ((words1.drop 24).take 24).all (fun c => isCode c || c.before args0 about1) = true := by decide +kernel
set_option maxRecDepth 65536 in
theorem w_t3 : (((words1.drop 24).drop 24).take 24).all (fun c => isCode c || c.before args0 about1) = true := by decide +kernel
set_option maxRecDepth 65536 in
theorem w_t4 : ((((words1.drop 24).drop 24).drop 24).take 24).all (fun c => isCode c || c.before args0 about1) = true := by decide +kernel
set_option maxRecDepth 65536 in
theorem w_t5 : (((((words1.drop 24).drop 24).drop 24).drop 24).take 24).all (fun c => isCode c || c.before args0 about1) = true := by decide +kernel
set_option maxRecDepth 65536 in
theorem w_t6 : ((((((words1.drop 24).drop 24).drop 24).drop 24).drop 24).take 24).all (fun c => isCode c || c.before args0 about1) = true := by decide +kernel
set_option maxRecDepth 65536 in
theorem w_t7 : (((((((words1.drop 24).drop 24).drop 24).drop 24).drop 24).drop 24).take 24).all (fun c => isCode c || c.before args0 about1) = true := by decide +kernel
set_option maxRecDepth 65536 in
theorem w_t8 : ((((((((words1.drop 24).drop 24).drop 24).drop 24).drop 24).drop 24).drop 24).take 24).all (fun c => isCode c || c.before args0 about1) = true := by decide +kernel
set_option maxRecDepth 65536 in
theorem w_t9 : (((((((((words1.drop 24).drop 24).drop 24).drop 24).drop 24).drop 24).drop 24).drop 24).take 24).all (fun c => isCode c || c.before args0 about1) = true := by decide +kernel
set_option maxRecDepth 65536 in
theorem w_t10 : ((((((((((words1.drop 24).drop 24).drop 24).drop 24).drop 24).drop 24).drop 24).drop 24).drop 24).take 24).all (fun c => isCode c || c.before args0 about1) = true := by decide +kernel
set_option maxRecDepth 65536 in
theorem w_t11 : ((((((((((words1.drop 24).drop 24).drop 24).drop 24).drop 24).drop 24).drop 24).drop 24).drop 24).drop 24).all (fun c => isCode c || c.before args0 about1) = true := by decide +kernel
theorem w_tables : (allAtoms (Jvm.Cond.code x code maxLocals ret :: tables_1)).before args0 about1 = true := by
  rw [allAtoms_all]
  show words1.all (fun c => c.before args0 about1) = true
  refine all_split ?_ w_codes
  rw [← List.take_append_drop 24 words1, List.all_append, w_t1, ← List.take_append_drop 24 (words1.drop 24), List.all_append, w_t2, ← List.take_append_drop 24 ((words1.drop 24).drop 24), List.all_append, w_t3, ← List.take_append_drop 24 (((words1.drop 24).drop 24).drop 24), List.all_append, w_t4, ← List.take_append_drop 24 ((((words1.drop 24).drop 24).drop 24).drop 24), List.all_append, w_t5, ← List.take_append_drop 24 (((((words1.drop 24).drop 24).drop 24).drop 24).drop 24), List.all_append, w_t6, ← List.take_append_drop 24 ((((((words1.drop 24).drop 24).drop 24).drop 24).drop 24).drop 24), List.all_append, w_t7, ← List.take_append_drop 24 (((((((words1.drop 24).drop 24).drop 24).drop 24).drop 24).drop 24).drop 24), List.all_append, w_t8, ← List.take_append_drop 24 ((((((((words1.drop 24).drop 24).drop 24).drop 24).drop 24).drop 24).drop 24).drop 24), List.all_append, w_t9, ← List.take_append_drop 24 (((((((((words1.drop 24).drop 24).drop 24).drop 24).drop 24).drop 24).drop 24).drop 24).drop 24), List.all_append, w_t10, w_t11]
  rfl
set_option maxRecDepth 65536 in
theorem w_rest : rest_1_c.before args0 about1 = true := by decide +kernel
set_option maxRecDepth 65536 in
theorem w_case : (Jvm.Cond.and given_1 narrow_1).before args0 about1 = true := by decide +kernel
set_option maxRecDepth 65536 in
theorem w_consts : constsHeld consts_1 about1 := Jvm.Lit.constsHeldB_iff.mp (by decide +kernel)
theorem w_applies : (headSpec (Jvm.Cond.code x code maxLocals ret :: tables_1) room_1).applies x e0.platform about1 = true :=
  (Spec.applies_iff w_frames).mpr ⟨w_running, w_runnable, w_alone, w_named, w_hears, w_ripe, w_room, w_tables⟩
theorem atStart : AtStart classFile x code maxLocals ret World_1 tables_1 room_1 Calls_1 rest_1 Pre_1 launch0 p0 e0 about1 theMethod args0 below0 :=
  ⟨lists_1, trivial, launch0.admits_env _ _ _, launch0.least_env, fairChoices_fair.cas, fairChoices_fair.clock, w_frames, w_args, w_heap, w_applies, ⟨w_consts, trivial⟩, w_rest, w_case⟩
end start1
theorem witness_1 : WitnessClaimed_1 := ⟨start1.p0, start1.e0, start1.about1, start1.theMethod, start1.args0, start1.below0, start1.atStart⟩
end Jvm.Pilot.@@N@@
