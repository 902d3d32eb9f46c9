import JvmDerived
import JvmDerived.Pilot.@@N@@Statement
import JvmDerived.Pilot.@@N@@Code
set_option linter.unusedVariables false
set_option linter.unusedSimpArgs false
namespace Jvm.RoadKit
open Sem ClassFile Op Lib Jvm.Stand Jvm.Free Jvm.LawKit
section New
variable {p : Program} {l : Launch} {e : Env} {R : Room} {s : State} {m : MethodId} {args : Array Value} {below : List Frame} {meth : Method} {c : Code} {T : State} {locs : List Loc} {cells slots : Nat}
theorem retI (X : Stand p l e R s m args below meth c T locs cells slots) (hx : p.tables.exec = Jvm.exec) {pc : Nat} {Ls : Array Slot} {z : Int32} {rest : List Value} (hret : meth.sig.returnType = some .int) (hd : decode c.code pc = .ok (.ireturn, 1)) {fs : List Frame}
    (hl : ∀ (f : JFrame) (acts : List Action), f.method = m → f.locked = none → f.entered = [] → (doReturn e (T.setTop f) acts (some (.int z))).1 = T.setFrames fs) : Steps p.tables e below (T.setTop (mkF m pc Ls (.int z :: rest))) (T.setFrames fs) := by
  have hm' : T.vm.method? m = some meth := X.method'
  have hn : narrow .int (.int z) = .int z := rfl
  show Steps p.tables e below (T.setTop { method := m, pc := pc, locals := Ls, stack := _ :: rest, locked := none }) _
  jvm_step X.here [X.here.top, hx, hd, hm', hret, hn]
  first | (intro acts; rw [hl _ acts rfl rfl rfl]) | rw [hl _ _ rfl rfl rfl]
  exact Steps.refl _
end New
end Jvm.RoadKit
namespace Jvm.Pilot.@@N@@
open Jvm Jvm.ClassFile Sem Op Lib Jvm.Free Jvm.Stand Jvm.LawKit Jvm.RoadKit Bundle Jvm.Pilot.@@N@@.Jvm.D
/-- where the walk stands, and what is still to come of it -/
abbrev Go (tb : Tables) (e : Env) (below : List Frame) (P : State → Outcome → Prop) (σ : State) : Prop := ∃ s₂ o, Steps tb e below σ s₂ ∧ P s₂ o
theorem go_st {tb : Tables} {e : Env} {below : List Frame} {P : State → Outcome → Prop} {σ σ' : State} (st : ∀ t, Steps tb e below σ' t → Steps tb e below σ t) (k : Go tb e below P σ') : Go tb e below P σ := by
  obtain ⟨a, b, c, d⟩ := k; exact ⟨a, b, st _ c, d⟩
theorem go_tr {tb : Tables} {e : Env} {below : List Frame} {P : State → Outcome → Prop} {σ σ' : State} (st : Steps tb e below σ σ') (k : Go tb e below P σ') : Go tb e below P σ := by
  obtain ⟨a, b, c, d⟩ := k; exact ⟨a, b, st.trans c, d⟩
theorem go_named {tb : Tables} {e : Env} {below : List Frame} {P : State → Outcome → Prop} {σ : State} (k : ∀ P', P' = P → Go tb e below P' σ) : Go tb e below P σ := k P rfl
theorem ext_rfl (h : Heap) : Ext h h := ⟨Nat.le_refl _, fun _ _ q => q⟩
theorem ext_tr {h h' h'' : Heap} (E : Ext h h') (E' : Ext h' h'') : Ext h h'' := ⟨Nat.le_trans E.1 E'.1, fun a c q => E'.2 a c (E.2 a c q)⟩
theorem ext_keep {h h' h'' : Heap} {ws : List Addr} (E : Ext h h') (K : Keep h' h'' ws) (q : ∀ x ∈ ws, h.size ≤ x) : Ext h h'' :=
  ⟨Nat.le_trans E.1 K.1, fun a c r => K.2.1 a c (E.2 a c r) fun z => absurd (Array.getElem?_eq_some_iff.mp r).1 (Nat.not_lt.mpr (q a z))⟩
theorem ext_wr {h h' h'' : Heap} {b : Addr} {sl : Nat} {v : Value} (E : Ext h h') (W : Wr h' h'' b sl v) (q : h.size ≤ b) : Ext h h'' := ext_keep E (Keep.of_wr W) (allS q all0)
theorem keep_of_ext {h h' : Heap} (E : Ext h h') : Keep h h' [] := (Keep.refl h []).ext E
theorem ref_cat {v : Value} (h : v.isRef = true) : v.category = 1 := by rcases ref_cases h with rfl | ⟨a, rfl⟩ <;> rfl
theorem ref_fits {v : Value} (C : String) (h : v.isRef = true) : fits (.object C) v = true := by rcases ref_cases h with rfl | ⟨a, rfl⟩ <;> rfl
theorem ref_narrow {v : Value} (C : String) (h : v.isRef = true) : narrow (.object C) v = v := by rcases ref_cases h with rfl | ⟨a, rfl⟩ <;> rfl
theorem nf_same {s : State} {a0 : Array Value} {y y' : MethodName} (hc : y'.cls = y.cls) (hi : (Jvm.Cond.instanceMethod y').before a0 s = true) (nf : NotFace s y') : NotFace s y := fun r0 h0 => by
  obtain ⟨mk, methM, hnamed, -⟩ := Cond.instanceMethod_spec hi
  obtain ⟨k, hk, hn⟩ := nf mk hnamed
  have e1 := findClass_of_methodNamed h0
  have e2 := findClass_of_methodNamed hnamed
  rw [hc, e1] at e2
  exact ⟨k, (Option.some.inj e2) ▸ hk, hn⟩
theorem sel_priv {s : State} {a0 : Array Value} {y : MethodName} (wp : (Jvm.Cond.privateMethod y).before a0 s = true) (wi : (Jvm.Cond.instanceMethod y).before a0 s = true) (nf : NotFace s y) (hy : y.cls ≠ "java/lang/invoke/MethodHandle" ∧ y.cls ≠ "java/lang/invoke/VarHandle") : (Jvm.Cond.selects y.cls y y).before a0 s = true := by
  obtain ⟨mk, methM, hnamed, -⟩ := Cond.instanceMethod_spec wi
  obtain ⟨k, hk, hn⟩ := nf mk hnamed
  exact selects_self_of_private (findClass_of_methodNamed hnamed) hk hn (Cond.privateMethod_at wp) wi hy
theorem same_self {s : State} {a0 : Array Value} {y : MethodName} (wi : (Jvm.Cond.instanceMethod y).before a0 s = true) (nf : NotFace s y) (hy : y.cls ≠ "java/lang/invoke/MethodHandle" ∧ y.cls ≠ "java/lang/invoke/VarHandle") : (Jvm.Cond.sameMethod y.cls y.cls y.name y.desc).before a0 s = true := by
  obtain ⟨mk, methM, hnamed, -⟩ := Cond.instanceMethod_spec wi
  obtain ⟨k, hk, hn⟩ := nf mk hnamed
  have hf := State.methodFound?_of_named hnamed hy
  have hc := findClass_of_methodNamed hnamed
  have hn' : s.methodNamed? ⟨y.cls, y.name, y.desc⟩ = some mk := hnamed
  simp [Cond.before, Cond.holds, Cond.value, hc, hf, hn', hk, hn]
theorem w80 {Z : State} {a0 : Array Value} (hw : ∀ d ∈ tables_1, d.before a0 Z = true) : (Jvm.Cond.stringLink "java/lang/String" (7 : Nat) "").before a0 Z = true := hw _ (List.mem_of_getElem? (i := 80) rfl)
theorem pn_java_lang_String : plainName "java/lang/String" = true := by first | (simp [plainName, overriddenIn]; done) | decide +kernel
theorem w7 {Z : State} {a0 : Array Value} (hw : ∀ d ∈ tables_1, d.before a0 Z = true) : (Jvm.Cond.instantiable "java/lang/String" (4 : Nat)).before a0 Z = true := hw _ (List.mem_of_getElem? (i := 7) rfl)
theorem d0_0 : decode jdk_42_method_149_code 0 = .ok (.aload_n 0, 1) := by decide +kernel
theorem d0_1 : decode jdk_42_method_149_code 1 = .ok (.invokespecial 1, 3) := by decide +kernel
theorem w16 {Z : State} {a0 : Array Value} (hw : ∀ d ∈ tables_1, d.before a0 Z = true) : (Jvm.Cond.methodLink "java/lang/String" (1 : Nat) ({ cls := "java/lang/Object", name := "<init>", desc := "()V" } : Jvm.MethodName)).before a0 Z = true := hw _ (List.mem_of_getElem? (i := 16) rfl)
theorem w17 {Z : State} {a0 : Array Value} (hw : ∀ d ∈ tables_1, d.before a0 Z = true) : (Jvm.Cond.instanceMethod ({ cls := "java/lang/Object", name := "<init>", desc := "()V" } : Jvm.MethodName)).before a0 Z = true := hw _ (List.mem_of_getElem? (i := 17) rfl)
theorem w18 {Z : State} {a0 : Array Value} (hw : ∀ d ∈ tables_1, d.before a0 Z = true) : (Jvm.Cond.code ({ cls := "java/lang/Object", name := "<init>", desc := "()V" } : Jvm.MethodName) object_method_1_code (1 : Nat) (Option.none : Option Jvm.ClassFile.FieldType)).before a0 Z = true := hw _ (List.mem_of_getElem? (i := 18) rfl)
theorem d0_4 : decode jdk_42_method_149_code 4 = .ok (.iload_n 3, 1) := by decide +kernel
theorem d0_5 : decode jdk_42_method_149_code 5 = .ok (.ifCond .ne 22, 3) := by decide +kernel
theorem d0_8 : decode jdk_42_method_149_code 8 = .ok (.aload_n 0, 1) := by decide +kernel
theorem d0_9 : decode jdk_42_method_149_code 9 = .ok (.ldc 7, 2) := by decide +kernel
theorem d0_11 : decode jdk_42_method_149_code 11 = .ok (.getfield 9, 3) := by decide +kernel
theorem w33 {Z : State} {a0 : Array Value} (hw : ∀ d ∈ tables_1, d.before a0 Z = true) : (Jvm.Cond.fieldLink "java/lang/String" (9 : Nat) "java/lang/String" "value" "[B").before a0 Z = true := hw _ (List.mem_of_getElem? (i := 33) rfl)
theorem d0_14 : decode jdk_42_method_149_code 14 = .ok (.putfield 9, 3) := by decide +kernel
theorem w34 {Z : State} {a0 : Array Value} (hw : ∀ d ∈ tables_1, d.before a0 Z = true) : (Jvm.Cond.laysFinal "java/lang/String" "java/lang/String" "value" "[B").before a0 Z = true := hw _ (List.mem_of_getElem? (i := 34) rfl)
theorem d0_17 : decode jdk_42_method_149_code 17 = .ok (.aload_n 0, 1) := by decide +kernel
theorem d0_18 : decode jdk_42_method_149_code 18 = .ok (.ldc 7, 2) := by decide +kernel
theorem d0_20 : decode jdk_42_method_149_code 20 = .ok (.getfield 15, 3) := by decide +kernel
theorem w31 {Z : State} {a0 : Array Value} (hw : ∀ d ∈ tables_1, d.before a0 Z = true) : (Jvm.Cond.fieldLink "java/lang/String" (15 : Nat) "java/lang/String" "coder" "B").before a0 Z = true := hw _ (List.mem_of_getElem? (i := 31) rfl)
theorem d0_23 : decode jdk_42_method_149_code 23 = .ok (.putfield 15, 3) := by decide +kernel
theorem w32 {Z : State} {a0 : Array Value} (hw : ∀ d ∈ tables_1, d.before a0 Z = true) : (Jvm.Cond.laysFinal "java/lang/String" "java/lang/String" "coder" "B").before a0 Z = true := hw _ (List.mem_of_getElem? (i := 32) rfl)
theorem d0_26 : decode jdk_42_method_149_code 26 = .ok (.return_, 1) := by decide +kernel
theorem d1_0 : decode jdk_42_method_3_code 0 = .ok (.aload_n 0, 1) := by decide +kernel
theorem d1_1 : decode jdk_42_method_3_code 1 = .ok (.aload_n 1, 1) := by decide +kernel
theorem d1_2 : decode jdk_42_method_3_code 2 = .ok (.iconst 0, 1) := by decide +kernel
theorem d1_3 : decode jdk_42_method_3_code 3 = .ok (.aload_n 1, 1) := by decide +kernel
theorem d1_4 : decode jdk_42_method_3_code 4 = .ok (.arraylength, 1) := by decide +kernel
theorem d1_5 : decode jdk_42_method_3_code 5 = .ok (.aconst_null, 1) := by decide +kernel
theorem d1_6 : decode jdk_42_method_3_code 6 = .ok (.invokespecial 27, 3) := by decide +kernel
theorem w15 {Z : State} {a0 : Array Value} (hw : ∀ d ∈ tables_1, d.before a0 Z = true) : (Jvm.Cond.code ({ cls := "java/lang/String", name := "<init>", desc := "([CIILjava/lang/Void;)V" } : Jvm.MethodName) jdk_42_method_149_code (6 : Nat) (Option.none : Option Jvm.ClassFile.FieldType)).before a0 Z = true := hw _ (List.mem_of_getElem? (i := 15) rfl)
theorem w8 {Z : State} {a0 : Array Value} (hw : ∀ d ∈ tables_1, d.before a0 Z = true) : (Jvm.Cond.initialized "java/lang/String").before a0 Z = true := hw _ (List.mem_of_getElem? (i := 8) rfl)
theorem pd_0 : parseMethodDescriptor "([CIILjava/lang/Void;)V" = some ⟨[(.array .char), .int, .int, (.object "java/lang/Void")], none⟩ := by decide +kernel
theorem w12 {Z : State} {a0 : Array Value} (hw : ∀ d ∈ tables_1, d.before a0 Z = true) : (Jvm.Cond.methodLink "java/lang/String" (27 : Nat) ({ cls := "java/lang/String", name := "<init>", desc := "([CIILjava/lang/Void;)V" } : Jvm.MethodName)).before a0 Z = true := hw _ (List.mem_of_getElem? (i := 12) rfl)
theorem w13 {Z : State} {a0 : Array Value} (hw : ∀ d ∈ tables_1, d.before a0 Z = true) : (Jvm.Cond.instanceMethod ({ cls := "java/lang/String", name := "<init>", desc := "([CIILjava/lang/Void;)V" } : Jvm.MethodName)).before a0 Z = true := hw _ (List.mem_of_getElem? (i := 13) rfl)
theorem d1_9 : decode jdk_42_method_3_code 9 = .ok (.return_, 1) := by decide +kernel
theorem pn_java_lang_StringUTF16 : plainName "java/lang/StringUTF16" = true := by first | (simp [plainName, overriddenIn]; done) | decide +kernel
theorem d2_0 : decode jdk_52_method_15_code 0 = .ok (.iload_n 1, 1) := by decide +kernel
theorem d2_1 : decode jdk_52_method_15_code 1 = .ok (.aload_n 0, 1) := by decide +kernel
theorem d2_2 : decode jdk_52_method_15_code 2 = .ok (.arraylength, 1) := by decide +kernel
theorem d2_3 : decode jdk_52_method_15_code 3 = .ok (.isub, 1) := by decide +kernel
theorem d2_4 : decode jdk_52_method_15_code 4 = .ok (.bipush 31, 2) := by decide +kernel
theorem d2_6 : decode jdk_52_method_15_code 6 = .ok (.iushr, 1) := by decide +kernel
theorem d2_7 : decode jdk_52_method_15_code 7 = .ok (.i2b, 1) := by decide +kernel
theorem d2_8 : decode jdk_52_method_15_code 8 = .ok (.ireturn, 1) := by decide +kernel
theorem d3_0 : decode jdk_52_method_21_code 0 = .ok (.iconst 0, 1) := by decide +kernel
theorem d3_1 : decode jdk_52_method_21_code 1 = .ok (.istore 5, 2) := by decide +kernel
theorem d3_3 : decode jdk_52_method_21_code 3 = .ok (.iload 5, 2) := by decide +kernel
theorem d3_5 : decode jdk_52_method_21_code 5 = .ok (.iload 4, 2) := by decide +kernel
theorem d3_7 : decode jdk_52_method_21_code 7 = .ok (.if_icmp .ge 37, 3) := by decide +kernel
theorem d3_10 : decode jdk_52_method_21_code 10 = .ok (.aload_n 0, 1) := by decide +kernel
theorem d3_11 : decode jdk_52_method_21_code 11 = .ok (.iload_n 1, 1) := by decide +kernel
theorem d3_12 : decode jdk_52_method_21_code 12 = .ok (.caload, 1) := by decide +kernel
theorem d3_13 : decode jdk_52_method_21_code 13 = .ok (.istore 6, 2) := by decide +kernel
theorem d3_15 : decode jdk_52_method_21_code 15 = .ok (.iload 6, 2) := by decide +kernel
theorem d3_17 : decode jdk_52_method_21_code 17 = .ok (.sipush 255, 3) := by decide +kernel
theorem d3_20 : decode jdk_52_method_21_code 20 = .ok (.if_icmp .le 6, 3) := by decide +kernel
theorem d3_23 : decode jdk_52_method_21_code 23 = .ok (.iload 5, 2) := by decide +kernel
theorem d3_25 : decode jdk_52_method_21_code 25 = .ok (.ireturn, 1) := by decide +kernel
theorem d3_26 : decode jdk_52_method_21_code 26 = .ok (.aload_n 2, 1) := by decide +kernel
theorem d3_27 : decode jdk_52_method_21_code 27 = .ok (.iload_n 3, 1) := by decide +kernel
theorem d3_28 : decode jdk_52_method_21_code 28 = .ok (.iload 6, 2) := by decide +kernel
theorem d3_30 : decode jdk_52_method_21_code 30 = .ok (.i2b, 1) := by decide +kernel
theorem d3_31 : decode jdk_52_method_21_code 31 = .ok (.bastore, 1) := by decide +kernel
theorem d3_32 : decode jdk_52_method_21_code 32 = .ok (.iinc 1 1, 3) := by decide +kernel
theorem d3_35 : decode jdk_52_method_21_code 35 = .ok (.iinc 3 1, 3) := by decide +kernel
theorem d3_38 : decode jdk_52_method_21_code 38 = .ok (.iinc 5 1, 3) := by decide +kernel
theorem d3_41 : decode jdk_52_method_21_code 41 = .ok (.goto (-38), 3) := by decide +kernel
theorem d3_44 : decode jdk_52_method_21_code 44 = .ok (.iload 4, 2) := by decide +kernel
theorem d3_46 : decode jdk_52_method_21_code 46 = .ok (.ireturn, 1) := by decide +kernel
theorem d4_0 : decode jdk_52_method_3_code 0 = .ok (.iload_n 0, 1) := by decide +kernel
theorem d4_1 : decode jdk_52_method_3_code 1 = .ok (.ifCond .ge 11, 3) := by decide +kernel
theorem d4_12 : decode jdk_52_method_3_code 12 = .ok (.iload_n 0, 1) := by decide +kernel
theorem d4_13 : decode jdk_52_method_3_code 13 = .ok (.ldc 20, 2) := by decide +kernel
theorem w70 {Z : State} {a0 : Array Value} (hw : ∀ d ∈ tables_1, d.before a0 Z = true) : (Jvm.Cond.constant "java/lang/StringUTF16" (20 : Nat) (1073741823 : Int32)).before a0 Z = true := hw _ (List.mem_of_getElem? (i := 70) rfl)
theorem d4_15 : decode jdk_52_method_3_code 15 = .ok (.if_icmp .lt 40, 3) := by decide +kernel
theorem d4_55 : decode jdk_52_method_3_code 55 = .ok (.iload_n 0, 1) := by decide +kernel
theorem d4_56 : decode jdk_52_method_3_code 56 = .ok (.iconst 1, 1) := by decide +kernel
theorem d4_57 : decode jdk_52_method_3_code 57 = .ok (.ishl, 1) := by decide +kernel
theorem d4_58 : decode jdk_52_method_3_code 58 = .ok (.ireturn, 1) := by decide +kernel
theorem d5_0 : decode jdk_52_method_2_code 0 = .ok (.iload_n 0, 1) := by decide +kernel
theorem d5_1 : decode jdk_52_method_2_code 1 = .ok (.invokestatic 11, 3) := by decide +kernel
theorem w69 {Z : State} {a0 : Array Value} (hw : ∀ d ∈ tables_1, d.before a0 Z = true) : (Jvm.Cond.code ({ cls := "java/lang/StringUTF16", name := "newBytesLength", desc := "(I)I" } : Jvm.MethodName) jdk_52_method_3_code (1 : Nat) (Option.some Jvm.ClassFile.FieldType.int)).before a0 Z = true := hw _ (List.mem_of_getElem? (i := 69) rfl)
theorem w22 {Z : State} {a0 : Array Value} (hw : ∀ d ∈ tables_1, d.before a0 Z = true) : (Jvm.Cond.initialized "java/lang/StringUTF16").before a0 Z = true := hw _ (List.mem_of_getElem? (i := 22) rfl)
theorem pd_1 : parseMethodDescriptor "(I)I" = some ⟨[.int], some .int⟩ := by decide +kernel
theorem w67 {Z : State} {a0 : Array Value} (hw : ∀ d ∈ tables_1, d.before a0 Z = true) : (Jvm.Cond.methodLink "java/lang/StringUTF16" (11 : Nat) ({ cls := "java/lang/StringUTF16", name := "newBytesLength", desc := "(I)I" } : Jvm.MethodName)).before a0 Z = true := hw _ (List.mem_of_getElem? (i := 67) rfl)
theorem w68 {Z : State} {a0 : Array Value} (hw : ∀ d ∈ tables_1, d.before a0 Z = true) : (Jvm.Cond.static ({ cls := "java/lang/StringUTF16", name := "newBytesLength", desc := "(I)I" } : Jvm.MethodName)).before a0 Z = true := hw _ (List.mem_of_getElem? (i := 68) rfl)
theorem d5_4 : decode jdk_52_method_2_code 4 = .ok (.newarray .byte, 2) := by decide +kernel
theorem w24 {Z : State} {a0 : Array Value} (hw : ∀ d ∈ tables_1, d.before a0 Z = true) : (Jvm.Cond.arrayClass Jvm.ClassFile.FieldType.byte).before a0 Z = true := hw _ (List.mem_of_getElem? (i := 24) rfl)
theorem d5_6 : decode jdk_52_method_2_code 6 = .ok (.areturn, 1) := by decide +kernel
theorem d6_0 : decode jdk_52_method_4_code 0 = .ok (.getstatic 44, 3) := by decide +kernel
theorem w74 {Z : State} {a0 : Array Value} (hw : ∀ d ∈ tables_1, d.before a0 Z = true) : (Jvm.Cond.fieldLink "java/lang/StringUTF16" (44 : Nat) "java/lang/StringUTF16" "$assertionsDisabled" "Z").before a0 Z = true := hw _ (List.mem_of_getElem? (i := 74) rfl)
theorem d6_3 : decode jdk_52_method_4_code 3 = .ok (.ifCond .ne 25, 3) := by decide +kernel
theorem d6_28 : decode jdk_52_method_4_code 28 = .ok (.iload_n 1, 1) := by decide +kernel
theorem d6_29 : decode jdk_52_method_4_code 29 = .ok (.iconst 1, 1) := by decide +kernel
theorem d6_30 : decode jdk_52_method_4_code 30 = .ok (.ishl, 1) := by decide +kernel
theorem d6_31 : decode jdk_52_method_4_code 31 = .ok (.istore_n 1, 1) := by decide +kernel
theorem d6_32 : decode jdk_52_method_4_code 32 = .ok (.aload_n 0, 1) := by decide +kernel
theorem d6_33 : decode jdk_52_method_4_code 33 = .ok (.iload_n 1, 1) := by decide +kernel
theorem d6_34 : decode jdk_52_method_4_code 34 = .ok (.iinc 1 1, 3) := by decide +kernel
theorem d6_37 : decode jdk_52_method_4_code 37 = .ok (.iload_n 2, 1) := by decide +kernel
theorem d6_38 : decode jdk_52_method_4_code 38 = .ok (.getstatic 59, 3) := by decide +kernel
theorem w75 {Z : State} {a0 : Array Value} (hw : ∀ d ∈ tables_1, d.before a0 Z = true) : (Jvm.Cond.fieldLink "java/lang/StringUTF16" (59 : Nat) "java/lang/StringUTF16" "HI_BYTE_SHIFT" "I").before a0 Z = true := hw _ (List.mem_of_getElem? (i := 75) rfl)
theorem d6_41 : decode jdk_52_method_4_code 41 = .ok (.ishr, 1) := by decide +kernel
theorem d6_42 : decode jdk_52_method_4_code 42 = .ok (.i2b, 1) := by decide +kernel
theorem d6_43 : decode jdk_52_method_4_code 43 = .ok (.bastore, 1) := by decide +kernel
theorem d6_44 : decode jdk_52_method_4_code 44 = .ok (.aload_n 0, 1) := by decide +kernel
theorem d6_45 : decode jdk_52_method_4_code 45 = .ok (.iload_n 1, 1) := by decide +kernel
theorem d6_46 : decode jdk_52_method_4_code 46 = .ok (.iload_n 2, 1) := by decide +kernel
theorem d6_47 : decode jdk_52_method_4_code 47 = .ok (.getstatic 63, 3) := by decide +kernel
theorem w76 {Z : State} {a0 : Array Value} (hw : ∀ d ∈ tables_1, d.before a0 Z = true) : (Jvm.Cond.fieldLink "java/lang/StringUTF16" (63 : Nat) "java/lang/StringUTF16" "LO_BYTE_SHIFT" "I").before a0 Z = true := hw _ (List.mem_of_getElem? (i := 76) rfl)
theorem d6_50 : decode jdk_52_method_4_code 50 = .ok (.ishr, 1) := by decide +kernel
theorem d6_51 : decode jdk_52_method_4_code 51 = .ok (.i2b, 1) := by decide +kernel
theorem d6_52 : decode jdk_52_method_4_code 52 = .ok (.bastore, 1) := by decide +kernel
theorem d6_53 : decode jdk_52_method_4_code 53 = .ok (.return_, 1) := by decide +kernel
theorem d7_0 : decode jdk_52_method_14_code 0 = .ok (.iload_n 2, 1) := by decide +kernel
theorem d7_1 : decode jdk_52_method_14_code 1 = .ok (.invokestatic 107, 3) := by decide +kernel
theorem w66 {Z : State} {a0 : Array Value} (hw : ∀ d ∈ tables_1, d.before a0 Z = true) : (Jvm.Cond.code ({ cls := "java/lang/StringUTF16", name := "newBytesFor", desc := "(I)[B" } : Jvm.MethodName) jdk_52_method_2_code (1 : Nat) (Option.some (Jvm.ClassFile.FieldType.array Jvm.ClassFile.FieldType.byte))).before a0 Z = true := hw _ (List.mem_of_getElem? (i := 66) rfl)
theorem pd_2 : parseMethodDescriptor "(I)[B" = some ⟨[.int], some (.array .byte)⟩ := by decide +kernel
theorem w64 {Z : State} {a0 : Array Value} (hw : ∀ d ∈ tables_1, d.before a0 Z = true) : (Jvm.Cond.methodLink "java/lang/StringUTF16" (107 : Nat) ({ cls := "java/lang/StringUTF16", name := "newBytesFor", desc := "(I)[B" } : Jvm.MethodName)).before a0 Z = true := hw _ (List.mem_of_getElem? (i := 64) rfl)
theorem w65 {Z : State} {a0 : Array Value} (hw : ∀ d ∈ tables_1, d.before a0 Z = true) : (Jvm.Cond.static ({ cls := "java/lang/StringUTF16", name := "newBytesFor", desc := "(I)[B" } : Jvm.MethodName)).before a0 Z = true := hw _ (List.mem_of_getElem? (i := 65) rfl)
theorem d7_4 : decode jdk_52_method_14_code 4 = .ok (.astore_n 3, 1) := by decide +kernel
theorem d7_5 : decode jdk_52_method_14_code 5 = .ok (.iconst 0, 1) := by decide +kernel
theorem d7_6 : decode jdk_52_method_14_code 6 = .ok (.istore 4, 2) := by decide +kernel
theorem d7_8 : decode jdk_52_method_14_code 8 = .ok (.iload 4, 2) := by decide +kernel
theorem d7_10 : decode jdk_52_method_14_code 10 = .ok (.iload_n 2, 1) := by decide +kernel
theorem d7_11 : decode jdk_52_method_14_code 11 = .ok (.if_icmp .ge 21, 3) := by decide +kernel
theorem d7_14 : decode jdk_52_method_14_code 14 = .ok (.aload_n 3, 1) := by decide +kernel
theorem d7_15 : decode jdk_52_method_14_code 15 = .ok (.iload 4, 2) := by decide +kernel
theorem d7_17 : decode jdk_52_method_14_code 17 = .ok (.aload_n 0, 1) := by decide +kernel
theorem d7_18 : decode jdk_52_method_14_code 18 = .ok (.iload_n 1, 1) := by decide +kernel
theorem d7_19 : decode jdk_52_method_14_code 19 = .ok (.caload, 1) := by decide +kernel
theorem d7_20 : decode jdk_52_method_14_code 20 = .ok (.invokestatic 111, 3) := by decide +kernel
theorem w73 {Z : State} {a0 : Array Value} (hw : ∀ d ∈ tables_1, d.before a0 Z = true) : (Jvm.Cond.code ({ cls := "java/lang/StringUTF16", name := "putChar", desc := "([BII)V" } : Jvm.MethodName) jdk_52_method_4_code (3 : Nat) (Option.none : Option Jvm.ClassFile.FieldType)).before a0 Z = true := hw _ (List.mem_of_getElem? (i := 73) rfl)
theorem pd_3 : parseMethodDescriptor "([BII)V" = some ⟨[(.array .byte), .int, .int], none⟩ := by decide +kernel
theorem w71 {Z : State} {a0 : Array Value} (hw : ∀ d ∈ tables_1, d.before a0 Z = true) : (Jvm.Cond.methodLink "java/lang/StringUTF16" (111 : Nat) ({ cls := "java/lang/StringUTF16", name := "putChar", desc := "([BII)V" } : Jvm.MethodName)).before a0 Z = true := hw _ (List.mem_of_getElem? (i := 71) rfl)
theorem w72 {Z : State} {a0 : Array Value} (hw : ∀ d ∈ tables_1, d.before a0 Z = true) : (Jvm.Cond.static ({ cls := "java/lang/StringUTF16", name := "putChar", desc := "([BII)V" } : Jvm.MethodName)).before a0 Z = true := hw _ (List.mem_of_getElem? (i := 72) rfl)
theorem d7_23 : decode jdk_52_method_14_code 23 = .ok (.iinc 1 1, 3) := by decide +kernel
theorem d7_26 : decode jdk_52_method_14_code 26 = .ok (.iinc 4 1, 3) := by decide +kernel
theorem d7_29 : decode jdk_52_method_14_code 29 = .ok (.goto (-21), 3) := by decide +kernel
theorem d7_32 : decode jdk_52_method_14_code 32 = .ok (.aload_n 3, 1) := by decide +kernel
theorem d7_33 : decode jdk_52_method_14_code 33 = .ok (.areturn, 1) := by decide +kernel
theorem d8_0 : decode jdk_52_method_5_code 0 = .ok (.getstatic 44, 3) := by decide +kernel
theorem d8_3 : decode jdk_52_method_5_code 3 = .ok (.ifCond .ne 25, 3) := by decide +kernel
theorem d8_28 : decode jdk_52_method_5_code 28 = .ok (.iload_n 1, 1) := by decide +kernel
theorem d8_29 : decode jdk_52_method_5_code 29 = .ok (.iconst 1, 1) := by decide +kernel
theorem d8_30 : decode jdk_52_method_5_code 30 = .ok (.ishl, 1) := by decide +kernel
theorem d8_31 : decode jdk_52_method_5_code 31 = .ok (.istore_n 1, 1) := by decide +kernel
theorem d8_32 : decode jdk_52_method_5_code 32 = .ok (.aload_n 0, 1) := by decide +kernel
theorem d8_33 : decode jdk_52_method_5_code 33 = .ok (.iload_n 1, 1) := by decide +kernel
theorem d8_34 : decode jdk_52_method_5_code 34 = .ok (.iinc 1 1, 3) := by decide +kernel
theorem d8_37 : decode jdk_52_method_5_code 37 = .ok (.baload, 1) := by decide +kernel
theorem d8_38 : decode jdk_52_method_5_code 38 = .ok (.sipush 255, 3) := by decide +kernel
theorem d8_41 : decode jdk_52_method_5_code 41 = .ok (.iand, 1) := by decide +kernel
theorem d8_42 : decode jdk_52_method_5_code 42 = .ok (.getstatic 59, 3) := by decide +kernel
theorem d8_45 : decode jdk_52_method_5_code 45 = .ok (.ishl, 1) := by decide +kernel
theorem d8_46 : decode jdk_52_method_5_code 46 = .ok (.aload_n 0, 1) := by decide +kernel
theorem d8_47 : decode jdk_52_method_5_code 47 = .ok (.iload_n 1, 1) := by decide +kernel
theorem d8_48 : decode jdk_52_method_5_code 48 = .ok (.baload, 1) := by decide +kernel
theorem d8_49 : decode jdk_52_method_5_code 49 = .ok (.sipush 255, 3) := by decide +kernel
theorem d8_52 : decode jdk_52_method_5_code 52 = .ok (.iand, 1) := by decide +kernel
theorem d8_53 : decode jdk_52_method_5_code 53 = .ok (.getstatic 63, 3) := by decide +kernel
theorem d8_56 : decode jdk_52_method_5_code 56 = .ok (.ishl, 1) := by decide +kernel
theorem d8_57 : decode jdk_52_method_5_code 57 = .ok (.ior, 1) := by decide +kernel
theorem d8_58 : decode jdk_52_method_5_code 58 = .ok (.i2c, 1) := by decide +kernel
theorem d8_59 : decode jdk_52_method_5_code 59 = .ok (.ireturn, 1) := by decide +kernel
theorem d9_0 : decode jdk_52_method_16_code 0 = .ok (.iload_n 2, 1) := by decide +kernel
theorem d9_1 : decode jdk_52_method_16_code 1 = .ok (.newarray .byte, 2) := by decide +kernel
theorem d9_3 : decode jdk_52_method_16_code 3 = .ok (.astore_n 3, 1) := by decide +kernel
theorem d9_4 : decode jdk_52_method_16_code 4 = .ok (.aload_n 0, 1) := by decide +kernel
theorem d9_5 : decode jdk_52_method_16_code 5 = .ok (.iload_n 1, 1) := by decide +kernel
theorem d9_6 : decode jdk_52_method_16_code 6 = .ok (.aload_n 3, 1) := by decide +kernel
theorem d9_7 : decode jdk_52_method_16_code 7 = .ok (.iconst 0, 1) := by decide +kernel
theorem d9_8 : decode jdk_52_method_16_code 8 = .ok (.iload_n 2, 1) := by decide +kernel
theorem d9_9 : decode jdk_52_method_16_code 9 = .ok (.invokestatic 115, 3) := by decide +kernel
theorem w27 {Z : State} {a0 : Array Value} (hw : ∀ d ∈ tables_1, d.before a0 Z = true) : (Jvm.Cond.code ({ cls := "java/lang/StringUTF16", name := "compress", desc := "([CI[BII)I" } : Jvm.MethodName) jdk_52_method_21_code (7 : Nat) (Option.some Jvm.ClassFile.FieldType.int)).before a0 Z = true := hw _ (List.mem_of_getElem? (i := 27) rfl)
theorem pd_4 : parseMethodDescriptor "([CI[BII)I" = some ⟨[(.array .char), .int, (.array .byte), .int, .int], some .int⟩ := by decide +kernel
theorem w25 {Z : State} {a0 : Array Value} (hw : ∀ d ∈ tables_1, d.before a0 Z = true) : (Jvm.Cond.methodLink "java/lang/StringUTF16" (115 : Nat) ({ cls := "java/lang/StringUTF16", name := "compress", desc := "([CI[BII)I" } : Jvm.MethodName)).before a0 Z = true := hw _ (List.mem_of_getElem? (i := 25) rfl)
theorem w26 {Z : State} {a0 : Array Value} (hw : ∀ d ∈ tables_1, d.before a0 Z = true) : (Jvm.Cond.static ({ cls := "java/lang/StringUTF16", name := "compress", desc := "([CI[BII)I" } : Jvm.MethodName)).before a0 Z = true := hw _ (List.mem_of_getElem? (i := 26) rfl)
theorem d9_12 : decode jdk_52_method_16_code 12 = .ok (.istore 4, 2) := by decide +kernel
theorem d9_14 : decode jdk_52_method_16_code 14 = .ok (.iload 4, 2) := by decide +kernel
theorem d9_16 : decode jdk_52_method_16_code 16 = .ok (.iload_n 2, 1) := by decide +kernel
theorem d9_17 : decode jdk_52_method_16_code 17 = .ok (.if_icmp .eq 40, 3) := by decide +kernel
theorem d9_57 : decode jdk_52_method_16_code 57 = .ok (.aload_n 3, 1) := by decide +kernel
theorem d9_58 : decode jdk_52_method_16_code 58 = .ok (.areturn, 1) := by decide +kernel
theorem d9_20 : decode jdk_52_method_16_code 20 = .ok (.aload_n 0, 1) := by decide +kernel
theorem d9_21 : decode jdk_52_method_16_code 21 = .ok (.iload_n 1, 1) := by decide +kernel
theorem d9_22 : decode jdk_52_method_16_code 22 = .ok (.iload_n 2, 1) := by decide +kernel
theorem d9_23 : decode jdk_52_method_16_code 23 = .ok (.invokestatic 119, 3) := by decide +kernel
theorem w63 {Z : State} {a0 : Array Value} (hw : ∀ d ∈ tables_1, d.before a0 Z = true) : (Jvm.Cond.code ({ cls := "java/lang/StringUTF16", name := "toBytes", desc := "([CII)[B" } : Jvm.MethodName) jdk_52_method_14_code (5 : Nat) (Option.some (Jvm.ClassFile.FieldType.array Jvm.ClassFile.FieldType.byte))).before a0 Z = true := hw _ (List.mem_of_getElem? (i := 63) rfl)
theorem pd_5 : parseMethodDescriptor "([CII)[B" = some ⟨[(.array .char), .int, .int], some (.array .byte)⟩ := by decide +kernel
theorem w61 {Z : State} {a0 : Array Value} (hw : ∀ d ∈ tables_1, d.before a0 Z = true) : (Jvm.Cond.methodLink "java/lang/StringUTF16" (119 : Nat) ({ cls := "java/lang/StringUTF16", name := "toBytes", desc := "([CII)[B" } : Jvm.MethodName)).before a0 Z = true := hw _ (List.mem_of_getElem? (i := 61) rfl)
theorem w62 {Z : State} {a0 : Array Value} (hw : ∀ d ∈ tables_1, d.before a0 Z = true) : (Jvm.Cond.static ({ cls := "java/lang/StringUTF16", name := "toBytes", desc := "([CII)[B" } : Jvm.MethodName)).before a0 Z = true := hw _ (List.mem_of_getElem? (i := 62) rfl)
theorem d9_26 : decode jdk_52_method_16_code 26 = .ok (.astore 5, 2) := by decide +kernel
theorem d9_28 : decode jdk_52_method_16_code 28 = .ok (.aload 5, 2) := by decide +kernel
theorem d9_30 : decode jdk_52_method_16_code 30 = .ok (.iload 4, 2) := by decide +kernel
theorem d9_32 : decode jdk_52_method_16_code 32 = .ok (.invokestatic 71, 3) := by decide +kernel
theorem w79 {Z : State} {a0 : Array Value} (hw : ∀ d ∈ tables_1, d.before a0 Z = true) : (Jvm.Cond.code ({ cls := "java/lang/StringUTF16", name := "getChar", desc := "([BI)C" } : Jvm.MethodName) jdk_52_method_5_code (2 : Nat) (Option.some Jvm.ClassFile.FieldType.char)).before a0 Z = true := hw _ (List.mem_of_getElem? (i := 79) rfl)
theorem pd_6 : parseMethodDescriptor "([BI)C" = some ⟨[(.array .byte), .int], some .char⟩ := by decide +kernel
theorem w77 {Z : State} {a0 : Array Value} (hw : ∀ d ∈ tables_1, d.before a0 Z = true) : (Jvm.Cond.methodLink "java/lang/StringUTF16" (71 : Nat) ({ cls := "java/lang/StringUTF16", name := "getChar", desc := "([BI)C" } : Jvm.MethodName)).before a0 Z = true := hw _ (List.mem_of_getElem? (i := 77) rfl)
theorem w78 {Z : State} {a0 : Array Value} (hw : ∀ d ∈ tables_1, d.before a0 Z = true) : (Jvm.Cond.static ({ cls := "java/lang/StringUTF16", name := "getChar", desc := "([BI)C" } : Jvm.MethodName)).before a0 Z = true := hw _ (List.mem_of_getElem? (i := 78) rfl)
theorem d9_35 : decode jdk_52_method_16_code 35 = .ok (.sipush 255, 3) := by decide +kernel
theorem d9_38 : decode jdk_52_method_16_code 38 = .ok (.if_icmp .gt 16, 3) := by decide +kernel
theorem d9_54 : decode jdk_52_method_16_code 54 = .ok (.aload 5, 2) := by decide +kernel
theorem d9_56 : decode jdk_52_method_16_code 56 = .ok (.areturn, 1) := by decide +kernel
theorem d0_27 : decode jdk_42_method_149_code 27 = .ok (.getstatic 38, 3) := by decide +kernel
theorem w19 {Z : State} {a0 : Array Value} (hw : ∀ d ∈ tables_1, d.before a0 Z = true) : (Jvm.Cond.fieldLink "java/lang/String" (38 : Nat) "java/lang/String" "COMPACT_STRINGS" "Z").before a0 Z = true := hw _ (List.mem_of_getElem? (i := 19) rfl)
theorem d0_30 : decode jdk_42_method_149_code 30 = .ok (.ifCond .eq 28, 3) := by decide +kernel
theorem d0_33 : decode jdk_42_method_149_code 33 = .ok (.aload_n 1, 1) := by decide +kernel
theorem d0_34 : decode jdk_42_method_149_code 34 = .ok (.iload_n 2, 1) := by decide +kernel
theorem d0_35 : decode jdk_42_method_149_code 35 = .ok (.iload_n 3, 1) := by decide +kernel
theorem d0_36 : decode jdk_42_method_149_code 36 = .ok (.invokestatic 177, 3) := by decide +kernel
theorem w23 {Z : State} {a0 : Array Value} (hw : ∀ d ∈ tables_1, d.before a0 Z = true) : (Jvm.Cond.code ({ cls := "java/lang/StringUTF16", name := "compress", desc := "([CII)[B" } : Jvm.MethodName) jdk_52_method_16_code (6 : Nat) (Option.some (Jvm.ClassFile.FieldType.array Jvm.ClassFile.FieldType.byte))).before a0 Z = true := hw _ (List.mem_of_getElem? (i := 23) rfl)
theorem w20 {Z : State} {a0 : Array Value} (hw : ∀ d ∈ tables_1, d.before a0 Z = true) : (Jvm.Cond.methodLink "java/lang/String" (177 : Nat) ({ cls := "java/lang/StringUTF16", name := "compress", desc := "([CII)[B" } : Jvm.MethodName)).before a0 Z = true := hw _ (List.mem_of_getElem? (i := 20) rfl)
theorem w21 {Z : State} {a0 : Array Value} (hw : ∀ d ∈ tables_1, d.before a0 Z = true) : (Jvm.Cond.static ({ cls := "java/lang/StringUTF16", name := "compress", desc := "([CII)[B" } : Jvm.MethodName)).before a0 Z = true := hw _ (List.mem_of_getElem? (i := 21) rfl)
theorem d0_39 : decode jdk_42_method_149_code 39 = .ok (.astore 5, 2) := by decide +kernel
theorem d0_41 : decode jdk_42_method_149_code 41 = .ok (.aload_n 0, 1) := by decide +kernel
theorem d0_42 : decode jdk_42_method_149_code 42 = .ok (.aload 5, 2) := by decide +kernel
theorem d0_44 : decode jdk_42_method_149_code 44 = .ok (.iload_n 3, 1) := by decide +kernel
theorem d0_45 : decode jdk_42_method_149_code 45 = .ok (.invokestatic 47, 3) := by decide +kernel
theorem w30 {Z : State} {a0 : Array Value} (hw : ∀ d ∈ tables_1, d.before a0 Z = true) : (Jvm.Cond.code ({ cls := "java/lang/StringUTF16", name := "coderFromArrayLen", desc := "([BI)B" } : Jvm.MethodName) jdk_52_method_15_code (2 : Nat) (Option.some Jvm.ClassFile.FieldType.byte)).before a0 Z = true := hw _ (List.mem_of_getElem? (i := 30) rfl)
theorem pd_7 : parseMethodDescriptor "([BI)B" = some ⟨[(.array .byte), .int], some .byte⟩ := by decide +kernel
theorem w28 {Z : State} {a0 : Array Value} (hw : ∀ d ∈ tables_1, d.before a0 Z = true) : (Jvm.Cond.methodLink "java/lang/String" (47 : Nat) ({ cls := "java/lang/StringUTF16", name := "coderFromArrayLen", desc := "([BI)B" } : Jvm.MethodName)).before a0 Z = true := hw _ (List.mem_of_getElem? (i := 28) rfl)
theorem w29 {Z : State} {a0 : Array Value} (hw : ∀ d ∈ tables_1, d.before a0 Z = true) : (Jvm.Cond.static ({ cls := "java/lang/StringUTF16", name := "coderFromArrayLen", desc := "([BI)B" } : Jvm.MethodName)).before a0 Z = true := hw _ (List.mem_of_getElem? (i := 29) rfl)
theorem d0_48 : decode jdk_42_method_149_code 48 = .ok (.putfield 15, 3) := by decide +kernel
theorem d0_51 : decode jdk_42_method_149_code 51 = .ok (.aload_n 0, 1) := by decide +kernel
theorem d0_52 : decode jdk_42_method_149_code 52 = .ok (.aload 5, 2) := by decide +kernel
theorem d0_54 : decode jdk_42_method_149_code 54 = .ok (.putfield 9, 3) := by decide +kernel
theorem d0_57 : decode jdk_42_method_149_code 57 = .ok (.return_, 1) := by decide +kernel
theorem d10_0 : decode jdk_42_method_55_code 0 = .ok (.aload_n 0, 1) := by decide +kernel
theorem d10_1 : decode jdk_42_method_55_code 1 = .ok (.getfield 9, 3) := by decide +kernel
theorem d10_4 : decode jdk_42_method_55_code 4 = .ok (.arraylength, 1) := by decide +kernel
theorem d10_5 : decode jdk_42_method_55_code 5 = .ok (.ifCond .ne 7, 3) := by decide +kernel
theorem d10_8 : decode jdk_42_method_55_code 8 = .ok (.iconst 1, 1) := by decide +kernel
theorem d10_9 : decode jdk_42_method_55_code 9 = .ok (.goto 4, 3) := by decide +kernel
theorem d10_13 : decode jdk_42_method_55_code 13 = .ok (.ireturn, 1) := by decide +kernel
theorem d10_12 : decode jdk_42_method_55_code 12 = .ok (.iconst 0, 1) := by decide +kernel
theorem pn_java_lang_Record : plainName "java/lang/Record" = true := by first | (simp [plainName, overriddenIn]; done) | decide +kernel
theorem d11_0 : decode jdk_30_method_1_code 0 = .ok (.aload_n 0, 1) := by decide +kernel
theorem d11_1 : decode jdk_30_method_1_code 1 = .ok (.invokespecial 1, 3) := by decide +kernel
theorem w46 {Z : State} {a0 : Array Value} (hw : ∀ d ∈ tables_1, d.before a0 Z = true) : (Jvm.Cond.methodLink "java/lang/Record" (1 : Nat) ({ cls := "java/lang/Object", name := "<init>", desc := "()V" } : Jvm.MethodName)).before a0 Z = true := hw _ (List.mem_of_getElem? (i := 46) rfl)
theorem d11_4 : decode jdk_30_method_1_code 4 = .ok (.return_, 1) := by decide +kernel
theorem pn_com_example_credence_credence_Credentials : plainName "com/example/credence/credence/Credentials" = true := by first | (simp [plainName, overriddenIn]; done) | decide +kernel
theorem d12_0 : decode prog_3_method_1_code 0 = .ok (.aload_n 0, 1) := by decide +kernel
theorem d12_1 : decode prog_3_method_1_code 1 = .ok (.invokespecial 1, 3) := by decide +kernel
theorem w45 {Z : State} {a0 : Array Value} (hw : ∀ d ∈ tables_1, d.before a0 Z = true) : (Jvm.Cond.code ({ cls := "java/lang/Record", name := "<init>", desc := "()V" } : Jvm.MethodName) jdk_30_method_1_code (1 : Nat) (Option.none : Option Jvm.ClassFile.FieldType)).before a0 Z = true := hw _ (List.mem_of_getElem? (i := 45) rfl)
theorem w44 {Z : State} {a0 : Array Value} (hw : ∀ d ∈ tables_1, d.before a0 Z = true) : (Jvm.Cond.initialized "java/lang/Record").before a0 Z = true := hw _ (List.mem_of_getElem? (i := 44) rfl)
theorem pd_8 : parseMethodDescriptor "()V" = some ⟨[], none⟩ := by decide +kernel
theorem w41 {Z : State} {a0 : Array Value} (hw : ∀ d ∈ tables_1, d.before a0 Z = true) : (Jvm.Cond.methodLink "com/example/credence/credence/Credentials" (1 : Nat) ({ cls := "java/lang/Record", name := "<init>", desc := "()V" } : Jvm.MethodName)).before a0 Z = true := hw _ (List.mem_of_getElem? (i := 41) rfl)
theorem w42 {Z : State} {a0 : Array Value} (hw : ∀ d ∈ tables_1, d.before a0 Z = true) : (Jvm.Cond.instanceMethod ({ cls := "java/lang/Record", name := "<init>", desc := "()V" } : Jvm.MethodName)).before a0 Z = true := hw _ (List.mem_of_getElem? (i := 42) rfl)
theorem d12_4 : decode prog_3_method_1_code 4 = .ok (.aload_n 0, 1) := by decide +kernel
theorem d12_5 : decode prog_3_method_1_code 5 = .ok (.aload_n 1, 1) := by decide +kernel
theorem d12_6 : decode prog_3_method_1_code 6 = .ok (.putfield 7, 3) := by decide +kernel
theorem w47 {Z : State} {a0 : Array Value} (hw : ∀ d ∈ tables_1, d.before a0 Z = true) : (Jvm.Cond.fieldLink "com/example/credence/credence/Credentials" (7 : Nat) "com/example/credence/credence/Credentials" "username" "Ljava/lang/String;").before a0 Z = true := hw _ (List.mem_of_getElem? (i := 47) rfl)
theorem w48 {Z : State} {a0 : Array Value} (hw : ∀ d ∈ tables_1, d.before a0 Z = true) : (Jvm.Cond.laysFinal "com/example/credence/credence/Credentials" "com/example/credence/credence/Credentials" "username" "Ljava/lang/String;").before a0 Z = true := hw _ (List.mem_of_getElem? (i := 48) rfl)
theorem w36 {Z : State} {a0 : Array Value} (hw : ∀ d ∈ tables_1, d.before a0 Z = true) : (Jvm.Cond.instantiable "com/example/credence/credence/Credentials" (2 : Nat)).before a0 Z = true := hw _ (List.mem_of_getElem? (i := 36) rfl)
theorem d12_9 : decode prog_3_method_1_code 9 = .ok (.aload_n 0, 1) := by decide +kernel
theorem d12_10 : decode prog_3_method_1_code 10 = .ok (.aload_n 2, 1) := by decide +kernel
theorem d12_11 : decode prog_3_method_1_code 11 = .ok (.putfield 13, 3) := by decide +kernel
theorem w49 {Z : State} {a0 : Array Value} (hw : ∀ d ∈ tables_1, d.before a0 Z = true) : (Jvm.Cond.fieldLink "com/example/credence/credence/Credentials" (13 : Nat) "com/example/credence/credence/Credentials" "password" "Ljava/lang/String;").before a0 Z = true := hw _ (List.mem_of_getElem? (i := 49) rfl)
theorem w50 {Z : State} {a0 : Array Value} (hw : ∀ d ∈ tables_1, d.before a0 Z = true) : (Jvm.Cond.laysFinal "com/example/credence/credence/Credentials" "com/example/credence/credence/Credentials" "password" "Ljava/lang/String;").before a0 Z = true := hw _ (List.mem_of_getElem? (i := 50) rfl)
theorem d12_14 : decode prog_3_method_1_code 14 = .ok (.return_, 1) := by decide +kernel
theorem d13_0 : decode prog_3_method_3_code 0 = .ok (.aload_n 0, 1) := by decide +kernel
theorem d13_1 : decode prog_3_method_3_code 1 = .ok (.getfield 7, 3) := by decide +kernel
theorem d13_4 : decode prog_3_method_3_code 4 = .ok (.ifnull 13, 3) := by decide +kernel
theorem d13_17 : decode prog_3_method_3_code 17 = .ok (.aload_n 0, 1) := by decide +kernel
theorem d13_18 : decode prog_3_method_3_code 18 = .ok (.getfield 13, 3) := by decide +kernel
theorem d13_21 : decode prog_3_method_3_code 21 = .ok (.ifnull 13, 3) := by decide +kernel
theorem d13_34 : decode prog_3_method_3_code 34 = .ok (.iconst 1, 1) := by decide +kernel
theorem d13_35 : decode prog_3_method_3_code 35 = .ok (.goto 4, 3) := by decide +kernel
theorem d13_39 : decode prog_3_method_3_code 39 = .ok (.ireturn, 1) := by decide +kernel
theorem d13_24 : decode prog_3_method_3_code 24 = .ok (.aload_n 0, 1) := by decide +kernel
theorem d13_25 : decode prog_3_method_3_code 25 = .ok (.getfield 13, 3) := by decide +kernel
theorem d13_28 : decode prog_3_method_3_code 28 = .ok (.invokevirtual 16, 3) := by decide +kernel
theorem w60 {Z : State} {a0 : Array Value} (hw : ∀ d ∈ tables_1, d.before a0 Z = true) : (Jvm.Cond.code ({ cls := "java/lang/String", name := "isEmpty", desc := "()Z" } : Jvm.MethodName) jdk_42_method_55_code (1 : Nat) (Option.some Jvm.ClassFile.FieldType.boolean)).before a0 Z = true := hw _ (List.mem_of_getElem? (i := 60) rfl)
theorem pd_9 : parseMethodDescriptor "()Z" = some ⟨[], some .boolean⟩ := by decide +kernel
theorem w56 {Z : State} {a0 : Array Value} (hw : ∀ d ∈ tables_1, d.before a0 Z = true) : (Jvm.Cond.methodLink "com/example/credence/credence/Credentials" (16 : Nat) ({ cls := "java/lang/String", name := "isEmpty", desc := "()Z" } : Jvm.MethodName)).before a0 Z = true := hw _ (List.mem_of_getElem? (i := 56) rfl)
theorem w59 {Z : State} {a0 : Array Value} (hw : ∀ d ∈ tables_1, d.before a0 Z = true) : (Jvm.Cond.selects "java/lang/String" ({ cls := "java/lang/String", name := "isEmpty", desc := "()Z" } : Jvm.MethodName) ({ cls := "java/lang/String", name := "isEmpty", desc := "()Z" } : Jvm.MethodName)).before a0 Z = true := hw _ (List.mem_of_getElem? (i := 59) rfl)
theorem w57 {Z : State} {a0 : Array Value} (hw : ∀ d ∈ tables_1, d.before a0 Z = true) : (Jvm.Cond.declares ({ cls := "java/lang/String", name := "isEmpty", desc := "()Z" } : Jvm.MethodName)).before a0 Z = true := hw _ (List.mem_of_getElem? (i := 57) rfl)
theorem w58 {Z : State} {a0 : Array Value} (hw : ∀ d ∈ tables_1, d.before a0 Z = true) : (Jvm.Cond.instanceMethod ({ cls := "java/lang/String", name := "isEmpty", desc := "()Z" } : Jvm.MethodName)).before a0 Z = true := hw _ (List.mem_of_getElem? (i := 58) rfl)
theorem d13_31 : decode prog_3_method_3_code 31 = .ok (.ifCond .eq 7, 3) := by decide +kernel
theorem d13_38 : decode prog_3_method_3_code 38 = .ok (.iconst 0, 1) := by decide +kernel
theorem d13_7 : decode prog_3_method_3_code 7 = .ok (.aload_n 0, 1) := by decide +kernel
theorem d13_8 : decode prog_3_method_3_code 8 = .ok (.getfield 7, 3) := by decide +kernel
theorem d13_11 : decode prog_3_method_3_code 11 = .ok (.invokevirtual 16, 3) := by decide +kernel
theorem d13_14 : decode prog_3_method_3_code 14 = .ok (.ifCond .eq 24, 3) := by decide +kernel
theorem pn_com_example_credence_credence_CredentialsBlankPinLaw : plainName "com/example/credence/credence/CredentialsBlankPinLaw" = true := by first | (simp [plainName, overriddenIn]; done) | decide +kernel
theorem d14_0 : decode method_2_code 0 = .ok (.iload_n 0, 1) := by decide +kernel
theorem d14_1 : decode method_2_code 1 = .ok (.ifCond .ne 5, 3) := by decide +kernel
theorem d14_4 : decode method_2_code 4 = .ok (.aconst_null, 1) := by decide +kernel
theorem d14_5 : decode method_2_code 5 = .ok (.areturn, 1) := by decide +kernel
theorem d14_6 : decode method_2_code 6 = .ok (.iload_n 0, 1) := by decide +kernel
theorem d14_7 : decode method_2_code 7 = .ok (.iconst 1, 1) := by decide +kernel
theorem d14_8 : decode method_2_code 8 = .ok (.if_icmp .ne 16, 3) := by decide +kernel
theorem d14_11 : decode method_2_code 11 = .ok (.iconst 0, 1) := by decide +kernel
theorem d14_12 : decode method_2_code 12 = .ok (.newarray .char, 2) := by decide +kernel
theorem w4 {Z : State} {a0 : Array Value} (hw : ∀ d ∈ tables_1, d.before a0 Z = true) : (Jvm.Cond.arrayClass Jvm.ClassFile.FieldType.char).before a0 Z = true := hw _ (List.mem_of_getElem? (i := 4) rfl)
theorem d14_14 : decode method_2_code 14 = .ok (.astore_n 2, 1) := by decide +kernel
theorem d14_15 : decode method_2_code 15 = .ok (.new 7, 3) := by decide +kernel
theorem w6 {Z : State} {a0 : Array Value} (hw : ∀ d ∈ tables_1, d.before a0 Z = true) : (Jvm.Cond.classLink "com/example/credence/credence/CredentialsBlankPinLaw" (7 : Nat) "java/lang/String").before a0 Z = true := hw _ (List.mem_of_getElem? (i := 6) rfl)
theorem d14_18 : decode method_2_code 18 = .ok (.dup, 1) := by decide +kernel
theorem d14_19 : decode method_2_code 19 = .ok (.aload_n 2, 1) := by decide +kernel
theorem d14_20 : decode method_2_code 20 = .ok (.invokespecial 9, 3) := by decide +kernel
theorem w11 {Z : State} {a0 : Array Value} (hw : ∀ d ∈ tables_1, d.before a0 Z = true) : (Jvm.Cond.code ({ cls := "java/lang/String", name := "<init>", desc := "([C)V" } : Jvm.MethodName) jdk_42_method_3_code (2 : Nat) (Option.none : Option Jvm.ClassFile.FieldType)).before a0 Z = true := hw _ (List.mem_of_getElem? (i := 11) rfl)
theorem pd_10 : parseMethodDescriptor "([C)V" = some ⟨[(.array .char)], none⟩ := by decide +kernel
theorem w9 {Z : State} {a0 : Array Value} (hw : ∀ d ∈ tables_1, d.before a0 Z = true) : (Jvm.Cond.methodLink "com/example/credence/credence/CredentialsBlankPinLaw" (9 : Nat) ({ cls := "java/lang/String", name := "<init>", desc := "([C)V" } : Jvm.MethodName)).before a0 Z = true := hw _ (List.mem_of_getElem? (i := 9) rfl)
theorem w10 {Z : State} {a0 : Array Value} (hw : ∀ d ∈ tables_1, d.before a0 Z = true) : (Jvm.Cond.instanceMethod ({ cls := "java/lang/String", name := "<init>", desc := "([C)V" } : Jvm.MethodName)).before a0 Z = true := hw _ (List.mem_of_getElem? (i := 10) rfl)
theorem d14_23 : decode method_2_code 23 = .ok (.areturn, 1) := by decide +kernel
theorem d14_24 : decode method_2_code 24 = .ok (.iload_n 0, 1) := by decide +kernel
theorem d14_25 : decode method_2_code 25 = .ok (.iconst 2, 1) := by decide +kernel
theorem d14_26 : decode method_2_code 26 = .ok (.if_icmp .ne 24, 3) := by decide +kernel
theorem d14_29 : decode method_2_code 29 = .ok (.iconst 1, 1) := by decide +kernel
theorem d14_30 : decode method_2_code 30 = .ok (.newarray .char, 2) := by decide +kernel
theorem d14_32 : decode method_2_code 32 = .ok (.astore_n 2, 1) := by decide +kernel
theorem d14_33 : decode method_2_code 33 = .ok (.aload_n 2, 1) := by decide +kernel
theorem d14_34 : decode method_2_code 34 = .ok (.iconst 0, 1) := by decide +kernel
theorem d14_35 : decode method_2_code 35 = .ok (.iload_n 1, 1) := by decide +kernel
theorem d14_36 : decode method_2_code 36 = .ok (.ldc 12, 2) := by decide +kernel
theorem w5 {Z : State} {a0 : Array Value} (hw : ∀ d ∈ tables_1, d.before a0 Z = true) : (Jvm.Cond.constant "com/example/credence/credence/CredentialsBlankPinLaw" (12 : Nat) (65535 : Int32)).before a0 Z = true := hw _ (List.mem_of_getElem? (i := 5) rfl)
theorem d14_38 : decode method_2_code 38 = .ok (.iand, 1) := by decide +kernel
theorem d14_39 : decode method_2_code 39 = .ok (.i2c, 1) := by decide +kernel
theorem d14_40 : decode method_2_code 40 = .ok (.castore, 1) := by decide +kernel
theorem d14_41 : decode method_2_code 41 = .ok (.new 7, 3) := by decide +kernel
theorem d14_44 : decode method_2_code 44 = .ok (.dup, 1) := by decide +kernel
theorem d14_45 : decode method_2_code 45 = .ok (.aload_n 2, 1) := by decide +kernel
theorem d14_46 : decode method_2_code 46 = .ok (.invokespecial 9, 3) := by decide +kernel
theorem d14_49 : decode method_2_code 49 = .ok (.areturn, 1) := by decide +kernel
theorem d14_50 : decode method_2_code 50 = .ok (.iconst 2, 1) := by decide +kernel
theorem d14_51 : decode method_2_code 51 = .ok (.newarray .char, 2) := by decide +kernel
theorem d14_53 : decode method_2_code 53 = .ok (.astore_n 2, 1) := by decide +kernel
theorem d14_54 : decode method_2_code 54 = .ok (.aload_n 2, 1) := by decide +kernel
theorem d14_55 : decode method_2_code 55 = .ok (.iconst 0, 1) := by decide +kernel
theorem d14_56 : decode method_2_code 56 = .ok (.iload_n 1, 1) := by decide +kernel
theorem d14_57 : decode method_2_code 57 = .ok (.ldc 12, 2) := by decide +kernel
theorem d14_59 : decode method_2_code 59 = .ok (.iand, 1) := by decide +kernel
theorem d14_60 : decode method_2_code 60 = .ok (.i2c, 1) := by decide +kernel
theorem d14_61 : decode method_2_code 61 = .ok (.castore, 1) := by decide +kernel
theorem d14_62 : decode method_2_code 62 = .ok (.aload_n 2, 1) := by decide +kernel
theorem d14_63 : decode method_2_code 63 = .ok (.iconst 1, 1) := by decide +kernel
theorem d14_64 : decode method_2_code 64 = .ok (.iload_n 1, 1) := by decide +kernel
theorem d14_65 : decode method_2_code 65 = .ok (.bipush 16, 2) := by decide +kernel
theorem d14_67 : decode method_2_code 67 = .ok (.iushr, 1) := by decide +kernel
theorem d14_68 : decode method_2_code 68 = .ok (.ldc 12, 2) := by decide +kernel
theorem d14_70 : decode method_2_code 70 = .ok (.iand, 1) := by decide +kernel
theorem d14_71 : decode method_2_code 71 = .ok (.i2c, 1) := by decide +kernel
theorem d14_72 : decode method_2_code 72 = .ok (.castore, 1) := by decide +kernel
theorem d14_73 : decode method_2_code 73 = .ok (.new 7, 3) := by decide +kernel
theorem d14_76 : decode method_2_code 76 = .ok (.dup, 1) := by decide +kernel
theorem d14_77 : decode method_2_code 77 = .ok (.aload_n 2, 1) := by decide +kernel
theorem d14_78 : decode method_2_code 78 = .ok (.invokespecial 9, 3) := by decide +kernel
theorem d14_81 : decode method_2_code 81 = .ok (.areturn, 1) := by decide +kernel
theorem w3 {Z : State} {a0 : Array Value} (hw : ∀ d ∈ tables_1, d.before a0 Z = true) : (Jvm.Cond.code ({ cls := "com/example/credence/credence/CredentialsBlankPinLaw", name := "make", desc := "(II)Ljava/lang/String;" } : Jvm.MethodName) method_2_code (3 : Nat) (Option.some (Jvm.ClassFile.FieldType.object "java/lang/String"))).before a0 Z = true := hw _ (List.mem_of_getElem? (i := 3) rfl)
theorem w2 {Z : State} {a0 : Array Value} (hw : ∀ d ∈ tables_1, d.before a0 Z = true) : (Jvm.Cond.initialized "com/example/credence/credence/CredentialsBlankPinLaw").before a0 Z = true := hw _ (List.mem_of_getElem? (i := 2) rfl)
theorem pd_11 : parseMethodDescriptor "(II)Ljava/lang/String;" = some ⟨[.int, .int], some (.object "java/lang/String")⟩ := by decide +kernel
theorem w0 {Z : State} {a0 : Array Value} (hw : ∀ d ∈ tables_1, d.before a0 Z = true) : (Jvm.Cond.methodLink "com/example/credence/credence/CredentialsBlankPinLaw" (13 : Nat) ({ cls := "com/example/credence/credence/CredentialsBlankPinLaw", name := "make", desc := "(II)Ljava/lang/String;" } : Jvm.MethodName)).before a0 Z = true := hw _ (List.mem_of_getElem? (i := 0) rfl)
theorem w1 {Z : State} {a0 : Array Value} (hw : ∀ d ∈ tables_1, d.before a0 Z = true) : (Jvm.Cond.static ({ cls := "com/example/credence/credence/CredentialsBlankPinLaw", name := "make", desc := "(II)Ljava/lang/String;" } : Jvm.MethodName)).before a0 Z = true := hw _ (List.mem_of_getElem? (i := 1) rfl)
theorem w35 {Z : State} {a0 : Array Value} (hw : ∀ d ∈ tables_1, d.before a0 Z = true) : (Jvm.Cond.classLink "com/example/credence/credence/CredentialsBlankPinLaw" (19 : Nat) "com/example/credence/credence/Credentials").before a0 Z = true := hw _ (List.mem_of_getElem? (i := 35) rfl)
theorem w37 {Z : State} {a0 : Array Value} (hw : ∀ d ∈ tables_1, d.before a0 Z = true) : (Jvm.Cond.initialized "com/example/credence/credence/Credentials").before a0 Z = true := hw _ (List.mem_of_getElem? (i := 37) rfl)
theorem w40 {Z : State} {a0 : Array Value} (hw : ∀ d ∈ tables_1, d.before a0 Z = true) : (Jvm.Cond.code ({ cls := "com/example/credence/credence/Credentials", name := "<init>", desc := "(Ljava/lang/String;Ljava/lang/String;)V" } : Jvm.MethodName) prog_3_method_1_code (3 : Nat) (Option.none : Option Jvm.ClassFile.FieldType)).before a0 Z = true := hw _ (List.mem_of_getElem? (i := 40) rfl)
theorem pd_12 : parseMethodDescriptor "(Ljava/lang/String;Ljava/lang/String;)V" = some ⟨[(.object "java/lang/String"), (.object "java/lang/String")], none⟩ := by decide +kernel
theorem w38 {Z : State} {a0 : Array Value} (hw : ∀ d ∈ tables_1, d.before a0 Z = true) : (Jvm.Cond.methodLink "com/example/credence/credence/CredentialsBlankPinLaw" (21 : Nat) ({ cls := "com/example/credence/credence/Credentials", name := "<init>", desc := "(Ljava/lang/String;Ljava/lang/String;)V" } : Jvm.MethodName)).before a0 Z = true := hw _ (List.mem_of_getElem? (i := 38) rfl)
theorem w39 {Z : State} {a0 : Array Value} (hw : ∀ d ∈ tables_1, d.before a0 Z = true) : (Jvm.Cond.instanceMethod ({ cls := "com/example/credence/credence/Credentials", name := "<init>", desc := "(Ljava/lang/String;Ljava/lang/String;)V" } : Jvm.MethodName)).before a0 Z = true := hw _ (List.mem_of_getElem? (i := 39) rfl)
theorem w55 {Z : State} {a0 : Array Value} (hw : ∀ d ∈ tables_1, d.before a0 Z = true) : (Jvm.Cond.code ({ cls := "com/example/credence/credence/Credentials", name := "blank", desc := "()Z" } : Jvm.MethodName) prog_3_method_3_code (1 : Nat) (Option.some Jvm.ClassFile.FieldType.boolean)).before a0 Z = true := hw _ (List.mem_of_getElem? (i := 55) rfl)
theorem w51 {Z : State} {a0 : Array Value} (hw : ∀ d ∈ tables_1, d.before a0 Z = true) : (Jvm.Cond.methodLink "com/example/credence/credence/CredentialsBlankPinLaw" (24 : Nat) ({ cls := "com/example/credence/credence/Credentials", name := "blank", desc := "()Z" } : Jvm.MethodName)).before a0 Z = true := hw _ (List.mem_of_getElem? (i := 51) rfl)
theorem w54 {Z : State} {a0 : Array Value} (hw : ∀ d ∈ tables_1, d.before a0 Z = true) : (Jvm.Cond.selects "com/example/credence/credence/Credentials" ({ cls := "com/example/credence/credence/Credentials", name := "blank", desc := "()Z" } : Jvm.MethodName) ({ cls := "com/example/credence/credence/Credentials", name := "blank", desc := "()Z" } : Jvm.MethodName)).before a0 Z = true := hw _ (List.mem_of_getElem? (i := 54) rfl)
theorem w52 {Z : State} {a0 : Array Value} (hw : ∀ d ∈ tables_1, d.before a0 Z = true) : (Jvm.Cond.declares ({ cls := "com/example/credence/credence/Credentials", name := "blank", desc := "()Z" } : Jvm.MethodName)).before a0 Z = true := hw _ (List.mem_of_getElem? (i := 52) rfl)
theorem w53 {Z : State} {a0 : Array Value} (hw : ∀ d ∈ tables_1, d.before a0 Z = true) : (Jvm.Cond.instanceMethod ({ cls := "com/example/credence/credence/Credentials", name := "blank", desc := "()Z" } : Jvm.MethodName)).before a0 Z = true := hw _ (List.mem_of_getElem? (i := 53) rfl)
theorem pl_rng (x : Int32) : -2147483648 ≤ x.toInt ∧ x.toInt ≤ 2147483647 := by
  have h1 := Int32.le_toInt x; have h2 := Int32.toInt_lt x
  constructor <;> omega
theorem pl_add {a b : Int32} (h1 : -2147483648 ≤ a.toInt + b.toInt) (h2 : a.toInt + b.toInt ≤ 2147483647) : (a + b).toInt = a.toInt + b.toInt := by
  have h := c_iadd a b; have := pl_rng (a + b); omega
theorem pl_sub {a b : Int32} (h1 : -2147483648 ≤ a.toInt - b.toInt) (h2 : a.toInt - b.toInt ≤ 2147483647) : (a - b).toInt = a.toInt - b.toInt := by
  have h := c_isub a b; have := pl_rng (a - b); omega
theorem pl_lt {a b : Int32} (h : a.toInt < b.toInt) : a < b := Int32.lt_iff_toInt_lt.mpr h
theorem pl_nlt {a b : Int32} (h : b.toInt ≤ a.toInt) : ¬ a < b := fun q => absurd (Int32.lt_iff_toInt_lt.mp q) (by omega)
theorem pl_of {a b : Int32} (h : a < b) : a.toInt < b.toInt := Int32.lt_iff_toInt_lt.mp h
theorem pl_nof {a b : Int32} (h : ¬ a < b) : b.toInt ≤ a.toInt := by
  have q : ¬ a.toInt < b.toInt := fun q => h (Int32.lt_iff_toInt_lt.mpr q)
  omega
theorem pl_tr {a b c : Int32} (h : a < b) (h' : b < c) : a < c := pl_lt (Int.lt_trans (pl_of h) (pl_of h'))
theorem pl_trn {a b c : Int32} (h : a < b) (h' : ¬ c < b) : a < c := pl_lt (Int.lt_of_lt_of_le (pl_of h) (pl_nof h'))
theorem pl_as {a b : Int32} (h : a < b) : ¬ b < a := pl_nlt (Int.le_of_lt (pl_of h))

theorem and3 (x : Int32) : x &&& (3 : Int32) = 0 ∨ x &&& (3 : Int32) = 1 ∨ x &&& (3 : Int32) = 2 ∨ x &&& (3 : Int32) = 3 := by
  have h := c_and x 3 (by decide); have h3 : (3 : Int32).toInt = 3 := rfl
  have e : x &&& 3 = Int32.ofInt (x &&& 3).toInt := (Int32.ofInt_toInt _).symm
  have : (x &&& 3).toInt = 0 ∨ (x &&& 3).toInt = 1 ∨ (x &&& 3).toInt = 2 ∨ (x &&& 3).toInt = 3 := by omega
  rcases this with q | q | q | q <;> rw [q] at e
  · exact Or.inl e
  · exact Or.inr (Or.inl e)
  · exact Or.inr (Or.inr (Or.inl e))
  · exact Or.inr (Or.inr (Or.inr e))
theorem and3_3 {x : Int32} (h0 : ¬ x &&& (3 : Int32) = 0) (h1 : ¬ x &&& (3 : Int32) = 1) (h2 : ¬ x &&& (3 : Int32) = 2) : x &&& (3 : Int32) = 3 := by
  rcases and3 x with q | q | q | q
  · exact absurd q h0
  · exact absurd q h1
  · exact absurd q h2
  · exact q

theorem hEL {Z : State} {a0 : Array Value} (hw : ∀ d ∈ tables_1, d.before a0 Z = true) : EW Z a0 consts_1 := (EW.cons (w80 hw) (by decide) EW.nil)
theorem str_atoms {Z : State} {a0 : Array Value} (hw : ∀ d ∈ tables_1, d.before a0 Z = true) : ∀ a ∈ Bundle.stringAtoms, a.before a0 Z = true := fun d hd => hw d ((by decide +kernel : ∀ d ∈ Bundle.stringAtoms, d ∈ tables_1) d hd)
/-- a String under construction (its value is still null) isn't a booked one -/
theorem safe_null {Z : State} {EL : List (String × Nat)} {vm : Vm} {h : Heap} {x : Addr} {a0 : Array Value} {kI : Nat} (hal : Z.vm.Alike vm) (wi : (Jvm.Cond.instantiable "java/lang/String" kI).before a0 Z = true) (E : Exa Z h x "java/lang/String") (F : Fld Z h x "java/lang/String" "value" "[B" .null) : Safe Z EL vm h x := by
  rintro ⟨p, -, u, a, -, q, -, ⟨cS, ⟨⟨s1, -, -, ⟨cv, kv, iv, s4, -⟩, -, -, -, s8, -, s10, s11, -⟩, -⟩, -⟩, rfl | rfl⟩
  · obtain ⟨cell, cf, k, i, f, h1, h2, -, -, -, -, h7⟩ := F
    cases (show h[q.sa]? = some q.sC from s1).symm.trans h1
    obtain ⟨k', z4⟩ := ff_back (Z := Z) (U := Wst Z vm h) hal s4
    have z5 : Z.fieldFound? "java/lang/String" "value" "[B" = some (cv, k', iv, q.fSV) := z4
    rw [z5] at h2; cases h2
    rw [s8] at h7; cases h7
  · obtain ⟨cell, k, h1, h2, h3, -, -⟩ := E
    cases (show h[q.sd]? = some q.SA from s10).symm.trans h1
    obtain ⟨c2, k2, i1, i2, i3, -⟩ := Cond.instantiable_spec wi
    cases h2.symm.trans i1
    obtain ⟨-, k9, hk9, comp, hkind⟩ := s11
    obtain ⟨k', hk', ek⟩ := hal.2.2 _ _ i2
    cases (show vm.classes[q.SA.cls]? = some k9 from hk9).symm.trans hk'
    rw [ek] at hkind
    exact absurd (i3.symm.trans hkind) (by simp)

def Q_strE4 (Z : State) (a1 : Addr) (ac : Addr) (kc : ClassId) (h0 : Heap) (n0 : Nat) (vR : Option Value) (h : Heap) (L : List Loc) : Prop := ∃ (t : Addr) (kb : ClassId), vR = none ∧ Fr n0 L ∧ Keep h0 h [a1] ∧ (Exa Z h a1 "java/lang/String") ∧ (Fld Z h a1 "java/lang/String" "value" "[B" (.ref t)) ∧ (Fld Z h a1 "java/lang/String" "coder" "B" (.int 0)) ∧ (Arv Z h t kb .byte (0 : Int32) [] (.int 0))
theorem ef_strE4 (m : MethodId) (x0 : Addr) (x1 : Addr) (x2 : Int32) (x3 : Int32) : entryFrame m #[(.ref x0), (.ref x1), (.int x2), (.int x3), .null] 6 = mkF m 0 #[.val (.ref x0), .val (.ref x1), .val (.int x2), .val (.int x3), .val .null, .unset] [] := by first | (simp [entryFrame, mkF, argsToLocals, Value.category]; done) | rfl
set_option maxRecDepth 65536 in
set_option maxHeartbeats 40000000 in
theorem rm_strE4 (l : Launch) (Z : State) (a0 : Array Value) (hw : ∀ d ∈ tables_1, d.before a0 Z = true) (ws : List Jvm.Cond) (a1 : Addr) (ac : Addr) (kc : ClassId) (h0 : Heap) (n0 : Nat) (Z0 : n0 ≤ h0.size) (H0 : Exa Z h0 a1 "java/lang/String") (H1 : Fld Z h0 a1 "java/lang/String" "value" "[B" .null) (H2 : Fld Z h0 a1 "java/lang/String" "coder" "B" (.int 0)) (H3 : Arv Z h0 ac kc .char (0 : Int32) [] (.int (0 : Int32))) (g_a1 : n0 ≤ a1) (ne_a1_ac : a1 ≠ ac) :
    MetFree l (⟨"java/lang/String", "<init>", "([CIILjava/lang/Void;)V"⟩ : MethodName) (head1 (Jvm.Cond.code (⟨"java/lang/String", "<init>", "([CIILjava/lang/Void;)V"⟩ : MethodName) jdk_42_method_149_code 6 none :: ws) ({ frames := 1, cells := 4, slots := 8, locals := 12 } : Room)) (fun a U => a = #[(.ref a1), (.ref ac), (.int 0), (.int 0), .null] ∧ Z.Warmed39 U.vm ∧ U.heap = h0 ∧ CHv Z consts_1 U.vm h0) (fun _ _ _ _ _ => True) (fun _ U o U' => ∃ v L, o = .returned v ∧ Q_strE4 Z a1 ac kc h0 n0 v U'.heap L ∧ CHr Z consts_1 U.vm U.heap U'.vm U'.heap ∧ ReturnedEndW U o U' L ({ frames := 1, cells := 4, slots := 8, locals := 12 } : Room).cells ({ frames := 1, cells := 4, slots := 8, locals := 12 } : Room).slots) := by
  refine MetFree.of_bodySF (plainFor_of_name pn_java_lang_String) hisR ?_
  intro p e s m args below meth c s₁ Bd hml0 hP hK
  obtain ⟨rfl, hZs, hh, HC0⟩ := hP
  have hx := Bd.exec
  have hby := Bd.bytes
  have hml : c.maxLocals = 6 := hml0
  have hZ : Z.Warmed39 (s.setVm s.vm).vm := hZs
  have hown : (s.setVm s.vm).vm.findClass "java/lang/String" = some m.cls := findClass_of_methodNamed Bd.named
  have hnm := (name_of_methodNamed Bd.named Bd.method).1
  have X0 : Stand p l e ({ frames := 1, cells := 4, slots := 8, locals := 12 } : Room) (s.setVm s.vm) m #[(.ref a1), (.ref ac), (.int 0), (.int 0), .null] below meth c s₁ [] 0 0 := Stand.of_body Bd
  have e0 : s₁.heap = h0 := by rw [← hh, Bd.state]; rfl
  have N0 := Fr.nil n0
  have hS0 : s.Since s.vm s.heap.size := (State.WarmedH.refl s).since _
  have hk0 : s.heap.size ≤ h0.size := Nat.le_of_eq (congrArg Array.size hh)
  have C0 : CHr Z consts_1 s.vm h0 s.vm h0 := CHr.refl HC0
  refine go_st (fun t k => castTop (ef_strE4 m a1 ac (0 : Int32) (0 : Int32)) k) ?_
  show Go _ _ _ _ (s₁.setTop (mkF m 0 #[rv a1, rv ac, iv 0, iv 0, .val .null, .unset] []))
  have sfa : Safe Z consts_1 s.vm h0 a1 := safe_null hZ.alike (w7 hw) H0 H1
  refine go_st (fun t k => XS.aloadN X0.here hx rfl (hb hby d0_0) rfl rfl k) ?_
  show Go _ _ _ _ (s₁.setTop (mkF m 1 #[rv a1, rv ac, iv 0, iv 0, .val .null, .unset] [(.ref a1)]))
  obtain ⟨T1, X1, e1, st1⟩ := initO X0 hx hZ hown (w16 hw) (w17 hw) (w18 hw) e0 (g := (mkF m 1 #[rv a1, rv ac, iv 0, iv 0, .val .null, .unset] [(.ref a1)])) rfl (by rw [hml]; rfl) rfl (hb hby d0_1) (by decide) (W := 0) (by show 2 * 0 + _ ≤ _; exact Nat.le_of_eq rfl) (by decide)
  refine go_st (fun t k => st1 t k) ?_
  show Go _ _ _ _ (T1.setTop (mkF m 4 #[rv a1, rv ac, iv 0, iv 0, .val .null, .unset] []))
  refine go_st (fun t k => XS.iloadN X1.here hx rfl (hb hby d0_4) rfl k) ?_
  show Go _ _ _ _ (T1.setTop (mkF m 5 #[rv a1, rv ac, iv 0, iv 0, .val .null, .unset] [(.int 0)]))
  refine go_st (fun t k => XS.ifNo X1.here hx rfl (hb hby d0_5) rfl ((if0 _ _).trans (teq ((by decide) : (0 : Int32) = (0 : Int32))).2) k) ?_
  show Go _ _ _ _ (T1.setTop (mkF m 8 #[rv a1, rv ac, iv 0, iv 0, .val .null, .unset] []))
  refine go_st (fun t k => XS.aloadN X1.here hx rfl (hb hby d0_8) rfl rfl k) ?_
  show Go _ _ _ _ (T1.setTop (mkF m 9 #[rv a1, rv ac, iv 0, iv 0, .val .null, .unset] [(.ref a1)]))
  obtain ⟨li2, T2, h2, kk2, t2, kb2, X2, e2, E2, hS2, hk2, hZ2, hown2, Es2, Cs2, Vs2, As2, lla2, llt2, hC2, -, hne2, st2⟩ := ldcCH (vm0 := s.vm) X1 hx hZ hown (w80 hw) (str_atoms hw) e1 hS0 (Nat.le_trans hk0 (Nat.le_refl _)) (hEL hw) (List.mem_of_getElem? (i := 0) rfl) C0.1 (vs := []) (z := (0 : Int32)) (by decide) (by decide) (by decide) (g := (mkF m 9 #[rv a1, rv ac, iv 0, iv 0, .val .null, .unset] [(.ref a1)])) rfl (hb hby d0_9) (n := 0) (by decide) (by decide) (by decide) (by decide)
  have C3 : CHr Z consts_1 s.vm h0 T2.vm h2 := CHr.trans C0 hC2
  have sf4 : Safe Z consts_1 T2.vm h2 a1 := (CHr.safe hC2 H0.lt sfa)
  refine go_st (fun t k => st2 t k) ?_
  show Go _ _ _ _ (T2.setTop (mkF m 11 #[rv a1, rv ac, iv 0, iv 0, .val .null, .unset] [(.ref li2), (.ref a1)]))
  obtain ⟨T5, X5, e5, st5⟩ := getF X2 hx hZ2 hown2 (host := "") (Or.inl (w33 hw)) Via.refl e2 Vs2 (g := (mkF m 11 #[rv a1, rv ac, iv 0, iv 0, .val .null, .unset] [(.ref li2), (.ref a1)])) rfl rfl (hb hby d0_11)
  refine go_st (fun t k => st5 t k) ?_
  show Go _ _ _ _ (T5.setTop (mkF m 14 #[rv a1, rv ac, iv 0, iv 0, .val .null, .unset] [(.ref t2), (.ref a1)]))
  have f6 : Fld Z h2 a1 "java/lang/String" "value" "[B" .null := (H1.ext E2)
  have f7 : Exa Z h2 a1 "java/lang/String" := (H0.ext E2)
  obtain ⟨T8, h8, X8, e8, W8, st8⟩ := putF X5 hx hZ2 hown2 (host := "") (Or.inl (w33 hw)) Via.refl e5 f6 f7 (Or.inr ⟨(w34 hw), rfl, hnm⟩) (w7 hw) (ty := (.array .byte)) (by decide) rfl rfl (g := (mkF m 14 #[rv a1, rv ac, iv 0, iv 0, .val .null, .unset] [(.ref t2), (.ref a1)])) rfl rfl (hb hby d0_14)
  have N8 := Fr.snoc X8 N0 g_a1
  have C9 : CHr Z consts_1 s.vm h0 T2.vm h8 := CHr.trans C3 (CHr.wr W8 sf4 C3.1)
  have sf10 : Safe Z consts_1 T2.vm h8 a1 := (Safe.wr W8 sf4 C3.1 sf4)
  have f11 : Fld Z h8 a1 "java/lang/String" "value" "[B" (.ref t2) := f6.same W8
  refine go_st (fun t k => st8 t k) ?_
  show Go _ _ _ _ (T8.setTop (mkF m 17 #[rv a1, rv ac, iv 0, iv 0, .val .null, .unset] []))
  refine go_st (fun t k => XS.aloadN X8.here hx rfl (hb hby d0_17) rfl rfl k) ?_
  show Go _ _ _ _ (T8.setTop (mkF m 18 #[rv a1, rv ac, iv 0, iv 0, .val .null, .unset] [(.ref a1)]))
  obtain ⟨li12, T12, h12, kk12, t12, kb12, X12, e12, E12, hS12, hk12, hZ12, hown12, Es12, Cs12, Vs12, As12, lla12, llt12, hC12, -, hne12, st12⟩ := ldcCH (vm0 := T2.vm) X8 hx hZ2 hown2 (w80 hw) (str_atoms hw) e8 hS2 (Nat.le_trans hk2 (Nat.le_of_eq W8.size.symm)) (hEL hw) (List.mem_of_getElem? (i := 0) rfl) C9.1 (vs := []) (z := (0 : Int32)) (by decide) (by decide) (by decide) (g := (mkF m 18 #[rv a1, rv ac, iv 0, iv 0, .val .null, .unset] [(.ref a1)])) rfl (hb hby d0_18) (n := 0) (by decide) (by decide) (by decide) (by decide)
  have f13 : Exa Z h8 a1 "java/lang/String" := (f7.wr W8)
  have C14 : CHr Z consts_1 s.vm h0 T12.vm h12 := CHr.trans C9 hC12
  have sf15 : Safe Z consts_1 T12.vm h12 a1 := (CHr.safe hC12 f13.lt sf10)
  refine go_st (fun t k => st12 t k) ?_
  show Go _ _ _ _ (T12.setTop (mkF m 20 #[rv a1, rv ac, iv 0, iv 0, .val .null, .unset] [(.ref li12), (.ref a1)]))
  obtain ⟨T16, X16, e16, st16⟩ := getF X12 hx hZ12 hown12 (host := "") (Or.inl (w31 hw)) Via.refl e12 Cs12 (g := (mkF m 20 #[rv a1, rv ac, iv 0, iv 0, .val .null, .unset] [(.ref li12), (.ref a1)])) rfl rfl (hb hby d0_20)
  refine go_st (fun t k => st16 t k) ?_
  show Go _ _ _ _ (T16.setTop (mkF m 23 #[rv a1, rv ac, iv 0, iv 0, .val .null, .unset] [(.int 0), (.ref a1)]))
  have f17 : Fld Z h12 a1 "java/lang/String" "coder" "B" (.int 0) := (((H2.ext E2).other W8 (Or.inr (slot_ne (Or.inr (w32 hw)) (Or.inr (w34 hw)) (by decide) (t := .byte) (t' := (.array .byte)) (by decide) (by decide)))).ext E12)
  have f18 : Exa Z h12 a1 "java/lang/String" := (f13.ext E12)
  obtain ⟨T19, h19, X19, e19, W19, st19⟩ := putFN X16 hx hZ12 hown12 (w31 hw) Via.refl e16 f17 f18 (Or.inr ⟨(w32 hw), rfl, hnm⟩) (w7 hw) (ty := .byte) (v' := (.int 0)) (by decide) rfl rfl (g := (mkF m 23 #[rv a1, rv ac, iv 0, iv 0, .val .null, .unset] [(.int 0), (.ref a1)])) rfl rfl (hb hby d0_23)
  have N19 := Fr.snoc X19 N8 g_a1
  have C20 : CHr Z consts_1 s.vm h0 T12.vm h19 := CHr.trans C14 (CHr.wr W19 sf15 C14.1)
  have sf21 : Safe Z consts_1 T12.vm h19 a1 := (Safe.wr W19 sf15 C14.1 sf15)
  have f22 : Fld Z h19 a1 "java/lang/String" "coder" "B" (.int 0) := f17.same W19
  refine go_st (fun t k => st19 t k) ?_
  show Go _ _ _ _ (T19.setTop (mkF m 26 #[rv a1, rv ac, iv 0, iv 0, .val .null, .unset] []))
  have f23 : Exa Z h19 a1 "java/lang/String" := (f18.wr W19)
  have f24 : Fld Z h19 a1 "java/lang/String" "value" "[B" (.ref t2) := ((f11.ext E12).other W19 (Or.inr (slot_ne (Or.inr (w34 hw)) (Or.inr (w32 hw)) (by decide) (t := (.array .byte)) (t' := .byte) (by decide) (by decide))))
  have nq25 : t2 ≠ a1 := Ne.symm (Exa.neArv f7 As2 (w7 hw))
  have f26 : Arv Z h19 t2 kb2 .byte (0 : Int32) [] (.int 0) := (((As2.other W8 nq25).ext E12).other W19 nq25)
  have ke27 : Keep h0 h2 [a1] := (Keep.ext (Keep.refl h0 [a1]) E2)
  have ke28 : Keep h0 h8 [a1] := (Keep.wr ke27 W8 (Or.inl (List.mem_of_getElem? (i := 0) rfl)))
  have ke29 : Keep h0 h12 [a1] := (Keep.ext ke28 E12)
  have ke30 : Keep h0 h19 [a1] := (Keep.wr ke29 W19 (Or.inl (List.mem_of_getElem? (i := 0) rfl)))
  obtain ⟨fs, hr, hrun, hended, hR⟩ := X19.leaveW hS12 (by rw [e19]; exact (Nat.le_trans hk12 (Nat.le_of_eq W19.size.symm))) (v := none) (fun _ => rfl)
  refine ⟨_, _, ?_, hrun, hended, _, _, rfl, ?_, ?_, hR.1, hR.2.1, hR.2.2.1, hR.2.2.2.mono (by decide) (by decide)⟩
  · exact X19.returnOut hx Bd.returns (hb hby d0_26) hr
  · show Q_strE4 _ _ _ _ _ _ _ T19.heap _
    rw [e19]
    exact ⟨t2, kb2, rfl, N19, ke30, f23, f24, f22, f26⟩
  · show CHr Z consts_1 s.vm s.heap T19.vm T19.heap
    rw [hh, e19]
    exact CHr.trans C20 (CHv.at X19 hZ12 (hEL hw) C20.1)
def Q_strE1 (Z : State) (a1 : Addr) (ac : Addr) (kc : ClassId) (h0 : Heap) (n0 : Nat) (vR : Option Value) (h : Heap) (L : List Loc) : Prop := ∃ (t : Addr) (kb : ClassId), vR = none ∧ Fr n0 L ∧ Keep h0 h [a1] ∧ (Exa Z h a1 "java/lang/String") ∧ (Fld Z h a1 "java/lang/String" "value" "[B" (.ref t)) ∧ (Fld Z h a1 "java/lang/String" "coder" "B" (.int 0)) ∧ (Arv Z h t kb .byte (0 : Int32) [] (.int 0))
theorem ef_strE1 (m : MethodId) (x0 : Addr) (x1 : Addr) : entryFrame m #[(.ref x0), (.ref x1)] 2 = mkF m 0 #[.val (.ref x0), .val (.ref x1)] [] := by first | (simp [entryFrame, mkF, argsToLocals, Value.category]; done) | rfl
set_option maxRecDepth 65536 in
set_option maxHeartbeats 40000000 in
theorem rm_strE1 (l : Launch) (Z : State) (a0 : Array Value) (hw : ∀ d ∈ tables_1, d.before a0 Z = true) (ws : List Jvm.Cond) (a1 : Addr) (ac : Addr) (kc : ClassId) (h0 : Heap) (n0 : Nat) (Z0 : n0 ≤ h0.size) (H0 : Exa Z h0 a1 "java/lang/String") (H1 : Fld Z h0 a1 "java/lang/String" "value" "[B" .null) (H2 : Fld Z h0 a1 "java/lang/String" "coder" "B" (.int 0)) (H3 : Arv Z h0 ac kc .char (0 : Int32) [] (.int (0 : Int32))) (g_a1 : n0 ≤ a1) (ne_a1_ac : a1 ≠ ac) :
    MetFree l (⟨"java/lang/String", "<init>", "([C)V"⟩ : MethodName) (head1 (Jvm.Cond.code (⟨"java/lang/String", "<init>", "([C)V"⟩ : MethodName) jdk_42_method_3_code 2 none :: ws) ({ frames := 2, cells := 4, slots := 8, locals := 29 } : Room)) (fun a U => a = #[(.ref a1), (.ref ac)] ∧ Z.Warmed39 U.vm ∧ U.heap = h0 ∧ CHv Z consts_1 U.vm h0) (fun _ _ _ _ _ => True) (fun _ U o U' => ∃ v L, o = .returned v ∧ Q_strE1 Z a1 ac kc h0 n0 v U'.heap L ∧ CHr Z consts_1 U.vm U.heap U'.vm U'.heap ∧ ReturnedEndW U o U' L ({ frames := 2, cells := 4, slots := 8, locals := 29 } : Room).cells ({ frames := 2, cells := 4, slots := 8, locals := 29 } : Room).slots) := by
  refine MetFree.of_bodySF (plainFor_of_name pn_java_lang_String) hisR ?_
  intro p e s m args below meth c s₁ Bd hml0 hP hK
  obtain ⟨rfl, hZs, hh, HC0⟩ := hP
  have hx := Bd.exec
  have hby := Bd.bytes
  have hml : c.maxLocals = 2 := hml0
  have hZ : Z.Warmed39 (s.setVm s.vm).vm := hZs
  have hown : (s.setVm s.vm).vm.findClass "java/lang/String" = some m.cls := findClass_of_methodNamed Bd.named
  have hnm := (name_of_methodNamed Bd.named Bd.method).1
  have X0 : Stand p l e ({ frames := 2, cells := 4, slots := 8, locals := 29 } : Room) (s.setVm s.vm) m #[(.ref a1), (.ref ac)] below meth c s₁ [] 0 0 := Stand.of_body Bd
  have e0 : s₁.heap = h0 := by rw [← hh, Bd.state]; rfl
  have N0 := Fr.nil n0
  have hS0 : s.Since s.vm s.heap.size := (State.WarmedH.refl s).since _
  have hk0 : s.heap.size ≤ h0.size := Nat.le_of_eq (congrArg Array.size hh)
  have C0 : CHr Z consts_1 s.vm h0 s.vm h0 := CHr.refl HC0
  refine go_st (fun t k => castTop (ef_strE1 m a1 ac) k) ?_
  show Go _ _ _ _ (s₁.setTop (mkF m 0 #[rv a1, rv ac] []))
  refine go_st (fun t k => XS.aloadN X0.here hx rfl (hb hby d1_0) rfl rfl k) ?_
  show Go _ _ _ _ (s₁.setTop (mkF m 1 #[rv a1, rv ac] [(.ref a1)]))
  refine go_st (fun t k => XS.aloadN X0.here hx rfl (hb hby d1_1) rfl rfl k) ?_
  show Go _ _ _ _ (s₁.setTop (mkF m 2 #[rv a1, rv ac] [(.ref ac), (.ref a1)]))
  refine go_st (fun t k => XS.iconst X0.here hx rfl (hb hby d1_2) k) ?_
  show Go _ _ _ _ (s₁.setTop (mkF m 3 #[rv a1, rv ac] [(.int 0), (.ref ac), (.ref a1)]))
  refine go_st (fun t k => XS.aloadN X0.here hx rfl (hb hby d1_3) rfl rfl k) ?_
  show Go _ _ _ _ (s₁.setTop (mkF m 4 #[rv a1, rv ac] [(.ref ac), (.int 0), (.ref ac), (.ref a1)]))
  obtain ⟨zc1, zA1, zq1, zS1, zN1, zH1, zG1⟩ := id H3
  refine go_st (fun t k => X0.arraylength hx (by rw [e0]; exact zA1.1) (State.isArrayOf_alike hZ.alike zA1.2.1) (g := (mkF m 4 #[rv a1, rv ac] [(.ref ac), (.int 0), (.ref ac), (.ref a1)])) rfl rfl (hb hby d1_4) t k) ?_
  rw [len_of zS1 zN1]
  show Go _ _ _ _ (s₁.setTop (mkF m 5 #[rv a1, rv ac] [(.int 0), (.int 0), (.ref ac), (.ref a1)]))
  refine go_st (fun t k => XS.aconstNull X0.here hx rfl (hb hby d1_5) k) ?_
  show Go _ _ _ _ (s₁.setTop (mkF m 6 #[rv a1, rv ac] [.null, (.int 0), (.int 0), (.ref ac), (.ref a1)]))
  obtain ⟨_, _, ⟨T2, L2, kk2, nn2⟩, -, X2, hs22, hg2, ⟨Lc2, hQ2, lq2, yq2, zq2, hC2⟩, st2⟩ := X0.specialBackS hx (y := (⟨"java/lang/String", "<init>", "([CIILjava/lang/Void;)V"⟩ : MethodName)) rfl hown (mvT hZ (w12 hw)) (mvT hZ (w13 hw)) (mvT hZ (w15 hw)) (by decide) (backOfSH (vm0 := s.vm) (W := 0) (rm_strE4 l Z a0 hw [] a1 ac kc h0 n0 (Nat.le_trans Z0 (Nat.le_refl _)) H0 H1 H2 H3 g_a1 ne_a1_ac) hZ (w15 hw) (w8 hw) (by decide) (by decide) (hEL hw) C0.1) (g := (mkF m 6 #[rv a1, rv ac] [.null, (.int 0), (.int 0), (.ref ac), (.ref a1)])) rfl (by rw [hml]; rfl) (Steps.refl _) (a := a1) (argsL := [(.ref ac), (.int 0), (.int 0), .null]) (rest := []) (lenOf pd_0 rfl) rfl (by show 2 * 0 + _ ≤ _; exact Nat.le_of_eq rfl) (hb hby d1_6) (fun _ _ => ⟨rfl, e0, (by decide : 0 + 4 ≤ _), (by decide : 0 + 8 ≤ _)⟩)
  dsimp only [Pt.U, Pt.locs, Pt.cells, Pt.slots] at X2 hs22 hg2 lq2 yq2 zq2 st2 hQ2 hC2
  subst lq2 yq2 zq2
  rw [e0] at hg2
  obtain ⟨X2, hS2, hZ2, hown2⟩ := rebS (vm0 := s.vm) hS0 (Nat.le_trans hk0 (Nat.le_refl _)) X2 hs22 hg2 hZ hown
  obtain ⟨h2, e2⟩ : ∃ z, T2.heap = z := ⟨_, rfl⟩
  rw [e2] at hQ2 hg2 hC2 hS2
  obtain ⟨t_2, kb_2, rfl, N2q, K2, p2_0, p2_1, p2_2, p2_3⟩ := hQ2
  have N2 := Fr.app N0 N2q
  have C3 : CHr Z consts_1 s.vm h0 T2.vm h2 := CHr.trans C0 hC2
  refine go_tr st2 ?_
  show Go _ _ _ _ (T2.setTop (mkF m 9 #[rv a1, rv ac] []))
  have ke4 : Keep h0 h2 [a1] := (Keep.trans (Keep.refl h0 [a1]) K2 (allS (Or.inl (List.mem_of_getElem? (i := 0) rfl)) all0))
  obtain ⟨fs, hr, hrun, hended, hR⟩ := X2.leaveW hS2 (by rw [e2]; exact (Nat.le_trans (Nat.le_refl _) (Nat.le_refl _))) (v := none) (fun _ => rfl)
  refine ⟨_, _, ?_, hrun, hended, _, _, rfl, ?_, ?_, hR.1, hR.2.1, hR.2.2.1, hR.2.2.2.mono (by decide) (by decide)⟩
  · exact X2.returnOut hx Bd.returns (hb hby d1_9) hr
  · show Q_strE1 _ _ _ _ _ _ _ T2.heap _
    rw [e2]
    exact ⟨t_2, kb_2, rfl, N2, ke4, p2_0, p2_1, p2_2, p2_3⟩
  · show CHr Z consts_1 s.vm s.heap T2.vm T2.heap
    rw [hh, e2]
    exact CHr.trans C3 (CHv.at X2 hZ2 (hEL hw) C3.1)
/-- null, an empty String, or one whose byte[] isn't empty -/
def OStr (Z : State) (h : Heap) (v : Value) (ne : Bool) : Prop := (v = .null ∧ ne = false) ∨ (∃ (a t : Addr) (kb : ClassId), v = .ref a ∧ (Exa Z h a "java/lang/String" ∧ Fld Z h a "java/lang/String" "value" "[B" (.ref t) ∧ Arv Z h t kb .byte (0 : Int32) [] (.int 0)) ∧ ne = false) ∨
  (∃ (a t : Addr) (kb : ClassId) (N : Int32) (vs : List Value), v = .ref a ∧ (Exa Z h a "java/lang/String" ∧ Fld Z h a "java/lang/String" "value" "[B" (.ref t) ∧ Arv Z h t kb .byte N vs (.int 0) ∧ ¬ N = 0) ∧ ne = true)
theorem OStr.ext {Z : State} {h h' : Heap} {v : Value} {ne : Bool} (F : OStr Z h v ne) (E : Ext h h') : OStr Z h' v ne := by
  rcases F with F | ⟨a, t, kb, r1, ⟨r2, r3, r4⟩, r5⟩ | ⟨a, t, kb, N, vs, r1, ⟨r2, r3, r4, r6⟩, r5⟩
  · exact Or.inl F
  · exact Or.inr (Or.inl ⟨a, t, kb, r1, ⟨r2.ext E, r3.ext E, r4.ext E⟩, r5⟩)
  · exact Or.inr (Or.inr ⟨a, t, kb, N, vs, r1, ⟨r2.ext E, r3.ext E, r4.ext E, r6⟩, r5⟩)
theorem ch_rng (x : Int32) : 0 ≤ (nar .char x).toInt ∧ (nar .char x).toInt ≤ 65535 := by
  have h := c_i2c x
  have e : nar .char x = x.toUInt32.toUInt16.toUInt32.toInt32 := rfl
  rw [e]; omega
/-- a char of two bytes, read back -/
theorem nar_c2 (x : Int32) : nar .char (x.toUInt32.toUInt16.toUInt32.toInt32) = x.toUInt32.toUInt16.toUInt32.toInt32 := by
  show x.toUInt32.toUInt16.toUInt32.toInt32.toUInt32.toUInt16.toUInt32.toInt32 = _
  generalize x.toUInt32.toUInt16 = y
  have e : y.toUInt32.toInt32.toUInt32 = y.toUInt32 := by rfl
  rw [e]
  simp
theorem ch_back {c : Int32} (h0 : 0 ≤ c.toInt) (h1 : c.toInt ≤ 65535) (h2 : (255 : Int32) < c) : (255 : Int32) < ((((nar .byte ((c >>> ((0 : Int32) &&& 31)).toInt8.toInt32)) &&& (255 : Int32)) <<< ((0 : Int32) &&& 31)) ||| (((nar .byte ((c >>> ((8 : Int32) &&& 31)).toInt8.toInt32)) &&& (255 : Int32)) <<< ((8 : Int32) &&& 31))).toUInt32.toUInt16.toUInt32.toInt32 := by
  have e0 : ((0 : Int32) &&& 31) = 0 := by decide
  have n1 : ∀ x : Int32, nar .byte x.toInt8.toInt32 = x.toInt8.toInt32 := fun x => by show x.toInt8.toInt32.toInt8.toInt32 = _; simp
  rw [n1, n1]
  generalize ha : (c >>> ((0 : Int32) &&& 31)) = a
  generalize hb_ : (c >>> ((8 : Int32) &&& 31)) = b
  have ea : a.toInt = c.toInt / (2 ^ 0 : Nat) := by rw [← ha]; exact c_ishr c 0 0 (by decide)
  have eb : b.toInt = c.toInt / (2 ^ 8 : Nat) := by rw [← hb_]; exact c_ishr c 8 8 (by decide)
  have ia := c_i2b a; have ib := c_i2b b
  generalize hA : a.toInt8.toInt32 = A at *
  generalize hB : b.toInt8.toInt32 = B at *
  have mA := c_mask A 255 8 (by decide) (by decide)
  have mB := c_mask B 255 8 (by decide) (by decide)
  generalize hP : A &&& (255 : Int32) = P at *
  generalize hR : B &&& (255 : Int32) = R at *
  have s0 := c_ishl P 0 0 (by decide)
  have s8 := c_ishl R 8 8 (by decide)
  have rP := pl_rng (P <<< ((0 : Int32) &&& 31)); have rR := pl_rng (R <<< ((8 : Int32) &&& 31))
  generalize hS : P <<< ((0 : Int32) &&& 31) = S at *
  generalize hU : R <<< ((8 : Int32) &&& 31) = U at *
  have e256 : ((2 ^ 8 : Nat) : Int) = 256 := by decide
  have e1 : ((2 ^ 0 : Nat) : Int) = 1 := by decide
  rw [e256] at *; rw [e1] at *
  have o := c_or' S U 8 (by decide) 256 (by decide) (by omega) (by omega) (by omega)
  have ro := pl_rng (S ||| U)
  generalize hV : S ||| U = V at *
  have iv := c_i2c V
  have h2' := Int32.lt_iff_toInt_lt.mp h2
  rw [Int32.lt_iff_toInt_lt]
  have e255 : (255 : Int32).toInt = 255 := rfl
  omega
def Q_cod (Z : State) (ab : Addr) (kb : ClassId) (N : Int32) (vs : List Value) (u : Int32) (h0 : Heap) (n0 : Nat) (vR : Option Value) (h : Heap) (L : List Loc) : Prop := ∃ (r : Int32), vR = some (.int (nar .byte r)) ∧ Fr n0 L ∧ h = h0
theorem ef_cod (m : MethodId) (x0 : Addr) (x1 : Int32) : entryFrame m #[(.ref x0), (.int x1)] 2 = mkF m 0 #[.val (.ref x0), .val (.int x1)] [] := by first | (simp [entryFrame, mkF, argsToLocals, Value.category]; done) | rfl
set_option maxRecDepth 65536 in
set_option maxHeartbeats 40000000 in
theorem rm_cod (l : Launch) (Z : State) (a0 : Array Value) (hw : ∀ d ∈ tables_1, d.before a0 Z = true) (ws : List Jvm.Cond) (ab : Addr) (kb : ClassId) (N : Int32) (vs : List Value) (u : Int32) (h0 : Heap) (n0 : Nat) (Z0 : n0 ≤ h0.size) (H0 : Arv Z h0 ab kb .byte N vs (.int (0 : Int32))) :
    MetFree l (⟨"java/lang/StringUTF16", "coderFromArrayLen", "([BI)B"⟩ : MethodName) (head1 (Jvm.Cond.code (⟨"java/lang/StringUTF16", "coderFromArrayLen", "([BI)B"⟩ : MethodName) jdk_52_method_15_code 2 (some .byte) :: ws) ({ frames := 0, cells := 0, slots := 0, locals := 0 } : Room)) (fun a U => a = #[(.ref ab), (.int u)] ∧ Z.Warmed39 U.vm ∧ U.heap = h0) (fun _ _ _ _ _ => True) (fun _ U o U' => ∃ v L, o = .returned v ∧ Q_cod Z ab kb N vs u h0 n0 v U'.heap L ∧ FrameEnd U o U' L ({ frames := 0, cells := 0, slots := 0, locals := 0 } : Room).cells ({ frames := 0, cells := 0, slots := 0, locals := 0 } : Room).slots) := by
  refine MetFree.of_bodySF (plainFor_of_name pn_java_lang_StringUTF16) hisR ?_
  intro p e s m args below meth c s₁ Bd hml0 hP hK
  obtain ⟨rfl, hZ, hh⟩ := hP
  have hx := Bd.exec
  have hby := Bd.bytes
  have hml : c.maxLocals = 2 := hml0
  have hown : s.vm.findClass "java/lang/StringUTF16" = some m.cls := findClass_of_methodNamed Bd.named
  have hnm := (name_of_methodNamed Bd.named Bd.method).1
  have X0 : Stand p l e ({ frames := 0, cells := 0, slots := 0, locals := 0 } : Room) s m #[(.ref ab), (.int u)] below meth c s₁ [] 0 0 := Stand.of_body Bd
  have e0 : s₁.heap = h0 := by rw [← hh, Bd.state]; rfl
  have N0 := Fr.nil n0
  refine go_st (fun t k => castTop (ef_cod m ab u) k) ?_
  show Go _ _ _ _ (s₁.setTop (mkF m 0 #[rv ab, iv u] []))
  refine go_st (fun t k => XS.iloadN X0.here hx rfl (hb hby d2_0) rfl k) ?_
  show Go _ _ _ _ (s₁.setTop (mkF m 1 #[rv ab, iv u] [(.int u)]))
  refine go_st (fun t k => XS.aloadN X0.here hx rfl (hb hby d2_1) rfl rfl k) ?_
  show Go _ _ _ _ (s₁.setTop (mkF m 2 #[rv ab, iv u] [(.ref ab), (.int u)]))
  obtain ⟨zc1, zA1, zq1, zS1, zN1, zH1, zG1⟩ := id H0
  refine go_st (fun t k => X0.arraylength hx (by rw [e0]; exact zA1.1) (State.isArrayOf_alike hZ.alike zA1.2.1) (g := (mkF m 2 #[rv ab, iv u] [(.ref ab), (.int u)])) rfl rfl (hb hby d2_2) t k) ?_
  rw [len_of zS1 zN1]
  show Go _ _ _ _ (s₁.setTop (mkF m 3 #[rv ab, iv u] [(.int N), (.int u)]))
  refine go_st (fun t k => XS.isub X0.here hx rfl (hb hby d2_3) rfl k) ?_
  show Go _ _ _ _ (s₁.setTop (mkF m 4 #[rv ab, iv u] [(.int (u - N))]))
  refine go_st (fun t k => XS.bipush X0.here hx rfl (hb hby d2_4) k) ?_
  show Go _ _ _ _ (s₁.setTop (mkF m 6 #[rv ab, iv u] [(.int 31), (.int (u - N))]))
  refine go_st (fun t k => XS.iushr X0.here hx rfl (hb hby d2_6) rfl k) ?_
  show Go _ _ _ _ (s₁.setTop (mkF m 7 #[rv ab, iv u] [(.int (((u - N)).toUInt32 >>> ((31 : Int32) &&& 31).toUInt32).toInt32)]))
  refine go_st (fun t k => XS.i2b X0.here hx rfl (hb hby d2_7) rfl k) ?_
  show Go _ _ _ _ (s₁.setTop (mkF m 8 #[rv ab, iv u] [(.int (((((u - N)).toUInt32 >>> ((31 : Int32) &&& 31).toUInt32).toInt32).toInt8.toInt32))]))
  obtain ⟨fs, hr, hrun, hended, hW, hsame⟩ := X0.leave (v := some (.int (nar .byte (((((u - N)).toUInt32 >>> ((31 : Int32) &&& 31).toUInt32).toInt32).toInt8.toInt32)))) (fun h => by rw [Bd.returns] at h; cases h)
  refine ⟨_, _, ?_, hrun, hended, _, _, rfl, ?_, ⟨_, rfl⟩, hW, hsame.mono (by decide) (by decide)⟩
  · exact retN X0 hx (t := .byte) Bd.returns (by simp) (hb hby d2_8) hr
  · show Q_cod _ _ _ _ _ _ _ _ _ s₁.heap _
    rw [e0]
    exact ⟨(((((u - N)).toUInt32 >>> ((31 : Int32) &&& 31).toUInt32).toInt32).toInt8.toInt32), rfl, N0, rfl⟩
def Q_cmp0_1 (Z : State) (ac : Addr) (kc : ClassId) (ab : Addr) (kb : ClassId) (c0 : Int32) (y0 : Int32) (h0 : Heap) (n0 : Nat) (vR : Option Value) (h : Heap) (L : List Loc) : Prop := ∃ (r : Int32) (vs : List Value), vR = some (.int r) ∧ Fr n0 L ∧ Keep h0 h [ab] ∧ (r = (1 : Int32) ∨ (r = 0 ∧ (255 : Int32) < c0)) ∧ (Arv Z h ab kb .byte (1 : Int32) vs (.int (0 : Int32)))
theorem ef_cmp0_1 (m : MethodId) (x0 : Addr) (x1 : Int32) (x2 : Addr) (x3 : Int32) (x4 : Int32) : entryFrame m #[(.ref x0), (.int x1), (.ref x2), (.int x3), (.int x4)] 7 = mkF m 0 #[.val (.ref x0), .val (.int x1), .val (.ref x2), .val (.int x3), .val (.int x4), .unset, .unset] [] := by first | (simp [entryFrame, mkF, argsToLocals, Value.category]; done) | rfl
set_option maxRecDepth 65536 in
set_option maxHeartbeats 40000000 in
theorem rm_cmp0_1 (l : Launch) (Z : State) (a0 : Array Value) (hw : ∀ d ∈ tables_1, d.before a0 Z = true) (ws : List Jvm.Cond) (ac : Addr) (kc : ClassId) (ab : Addr) (kb : ClassId) (c0 : Int32) (y0 : Int32) (h0 : Heap) (n0 : Nat) (Z0 : n0 ≤ h0.size) (H0 : Arv Z h0 ac kc .char (1 : Int32) [(.int c0)] (.int (0 : Int32))) (H1 : Arv Z h0 ab kb .byte (1 : Int32) [(.int y0)] (.int (0 : Int32))) (g_ab : n0 ≤ ab) (ne_ac_ab : ac ≠ ab) :
    MetFree l (⟨"java/lang/StringUTF16", "compress", "([CI[BII)I"⟩ : MethodName) (head1 (Jvm.Cond.code (⟨"java/lang/StringUTF16", "compress", "([CI[BII)I"⟩ : MethodName) jdk_52_method_21_code 7 (some .int) :: ws) ({ frames := 0, cells := 0, slots := 0, locals := 0 } : Room)) (fun a U => a = #[(.ref ac), (.int 0), (.ref ab), (.int 0), (.int 1)] ∧ Z.Warmed39 U.vm ∧ U.heap = h0) (fun _ _ _ _ _ => True) (fun _ U o U' => ∃ v L, o = .returned v ∧ Q_cmp0_1 Z ac kc ab kb c0 y0 h0 n0 v U'.heap L ∧ FrameEnd U o U' L ({ frames := 0, cells := 0, slots := 0, locals := 0 } : Room).cells ({ frames := 0, cells := 0, slots := 0, locals := 0 } : Room).slots) := by
  refine MetFree.of_bodySF (plainFor_of_name pn_java_lang_StringUTF16) hisR ?_
  intro p e s m args below meth c s₁ Bd hml0 hP hK
  obtain ⟨rfl, hZ, hh⟩ := hP
  have hx := Bd.exec
  have hby := Bd.bytes
  have hml : c.maxLocals = 7 := hml0
  have hown : s.vm.findClass "java/lang/StringUTF16" = some m.cls := findClass_of_methodNamed Bd.named
  have hnm := (name_of_methodNamed Bd.named Bd.method).1
  have X0 : Stand p l e ({ frames := 0, cells := 0, slots := 0, locals := 0 } : Room) s m #[(.ref ac), (.int 0), (.ref ab), (.int 0), (.int 1)] below meth c s₁ [] 0 0 := Stand.of_body Bd
  have e0 : s₁.heap = h0 := by rw [← hh, Bd.state]; rfl
  have N0 := Fr.nil n0
  refine go_st (fun t k => castTop (ef_cmp0_1 m ac (0 : Int32) ab (0 : Int32) (1 : Int32)) k) ?_
  show Go _ _ _ _ (s₁.setTop (mkF m 0 #[rv ac, iv 0, rv ab, iv 0, iv 1, .unset, .unset] []))
  refine go_st (fun t k => XS.iconst X0.here hx rfl (hb hby d3_0) k) ?_
  show Go _ _ _ _ (s₁.setTop (mkF m 1 #[rv ac, iv 0, rv ab, iv 0, iv 1, .unset, .unset] [(.int 0)]))
  refine go_st (fun t k => XS.istore X0.here hx rfl (hb hby d3_1) rfl (l' := #[rv ac, iv 0, rv ab, iv 0, iv 1, iv 0, .unset]) rfl k) ?_
  show Go _ _ _ _ (s₁.setTop (mkF m 3 #[rv ac, iv 0, rv ab, iv 0, iv 1, iv 0, .unset] []))
  refine go_st (fun t k => XS.iload X0.here hx rfl (hb hby d3_3) rfl k) ?_
  show Go _ _ _ _ (s₁.setTop (mkF m 5 #[rv ac, iv 0, rv ab, iv 0, iv 1, iv 0, .unset] [(.int 0)]))
  refine go_st (fun t k => XS.iload X0.here hx rfl (hb hby d3_5) rfl k) ?_
  show Go _ _ _ _ (s₁.setTop (mkF m 7 #[rv ac, iv 0, rv ab, iv 0, iv 1, iv 0, .unset] [(.int 1), (.int 0)]))
  refine go_st (fun t k => XS.icmpNo X0.here hx rfl (hb hby d3_7) rfl (tlt ((by decide) : (0 : Int32) < (1 : Int32))).2.1 k) ?_
  show Go _ _ _ _ (s₁.setTop (mkF m 10 #[rv ac, iv 0, rv ab, iv 0, iv 1, iv 0, .unset] []))
  refine go_st (fun t k => XS.aloadN X0.here hx rfl (hb hby d3_10) rfl rfl k) ?_
  show Go _ _ _ _ (s₁.setTop (mkF m 11 #[rv ac, iv 0, rv ab, iv 0, iv 1, iv 0, .unset] [(.ref ac)]))
  refine go_st (fun t k => XS.iloadN X0.here hx rfl (hb hby d3_11) rfl k) ?_
  show Go _ _ _ _ (s₁.setTop (mkF m 12 #[rv ac, iv 0, rv ab, iv 0, iv 1, iv 0, .unset] [(.int 0), (.ref ac)]))
  obtain ⟨zc1, zA1, zq1, zS1, zN1, zH1, zG1⟩ := id H0
  have hin1 : ¬ ((0 : Int32) < 0 ∨ zc1.slots.size ≤ ((0 : Int32)).toNatClampNeg) := inb_of zS1 ⟨by decide, by decide⟩
  have hat1 : zc1.slots[((0 : Int32)).toNatClampNeg]? = some (.int c0) := Has.at zH1 hin1 rfl
  refine go_st (fun t k => X0.caload hx (j := (0 : Int32)) (v := (.int c0)) (by rw [e0]; exact zA1.1) (State.isArrayOf_alike hZ.alike zA1.2.1) zA1.2.2 hin1 hat1 (g := (mkF m 12 #[rv ac, iv 0, rv ab, iv 0, iv 1, iv 0, .unset] [(.int 0), (.ref ac)])) rfl rfl (hb hby d3_12) t k) ?_
  show Go _ _ _ _ (s₁.setTop (mkF m 13 #[rv ac, iv 0, rv ab, iv 0, iv 1, iv 0, .unset] [(.int c0)]))
  refine go_st (fun t k => XS.istore X0.here hx rfl (hb hby d3_13) rfl (l' := #[rv ac, iv 0, rv ab, iv 0, iv 1, iv 0, iv c0]) rfl k) ?_
  show Go _ _ _ _ (s₁.setTop (mkF m 15 #[rv ac, iv 0, rv ab, iv 0, iv 1, iv 0, iv c0] []))
  refine go_st (fun t k => XS.iload X0.here hx rfl (hb hby d3_15) rfl k) ?_
  show Go _ _ _ _ (s₁.setTop (mkF m 17 #[rv ac, iv 0, rv ab, iv 0, iv 1, iv 0, iv c0] [(.int c0)]))
  refine go_st (fun t k => XS.sipush X0.here hx rfl (hb hby d3_17) k) ?_
  show Go _ _ _ _ (s₁.setTop (mkF m 20 #[rv ac, iv 0, rv ab, iv 0, iv 1, iv 0, iv c0] [(.int 255), (.int c0)]))
  by_cases hc2 : (255 : Int32) < c0
  · skip
    refine go_st (fun t k => XS.icmpNo X0.here hx rfl (hb hby d3_20) rfl (tlt (hc2 : (255 : Int32) < c0)).2.2.2 k) ?_
    show Go _ _ _ _ (s₁.setTop (mkF m 23 #[rv ac, iv 0, rv ab, iv 0, iv 1, iv 0, iv c0] []))
    refine go_st (fun t k => XS.iload X0.here hx rfl (hb hby d3_23) rfl k) ?_
    show Go _ _ _ _ (s₁.setTop (mkF m 25 #[rv ac, iv 0, rv ab, iv 0, iv 1, iv 0, iv c0] [(.int 0)]))
    obtain ⟨fs, hr, hrun, hended, hW, hsame⟩ := X0.leave (v := some (.int 0)) (fun h => by rw [Bd.returns] at h; cases h)
    refine ⟨_, _, ?_, hrun, hended, _, _, rfl, ?_, ⟨_, rfl⟩, hW, hsame.mono (by decide) (by decide)⟩
    · exact retI X0 hx Bd.returns (hb hby d3_25) hr
    · show Q_cmp0_1 _ _ _ _ _ _ _ _ _ _ s₁.heap _
      rw [e0]
      exact ⟨(0 : Int32), [(.int y0)], rfl, N0, (Keep.refl h0 [ab]), (Or.inr ⟨rfl, hc2⟩), H1⟩
  · skip
    refine go_st (fun t k => XS.icmpYes X0.here hx rfl (pc0 := 20) (pc' := 26) rfl (hb hby d3_20) rfl (flt (hc2 : ¬ ((255 : Int32) < c0))).2.2.2 (by decide) (by decide) k) ?_
    show Go _ _ _ _ (s₁.setTop (mkF m 26 #[rv ac, iv 0, rv ab, iv 0, iv 1, iv 0, iv c0] []))
    refine go_st (fun t k => XS.aloadN X0.here hx rfl (hb hby d3_26) rfl rfl k) ?_
    show Go _ _ _ _ (s₁.setTop (mkF m 27 #[rv ac, iv 0, rv ab, iv 0, iv 1, iv 0, iv c0] [(.ref ab)]))
    refine go_st (fun t k => XS.iloadN X0.here hx rfl (hb hby d3_27) rfl k) ?_
    show Go _ _ _ _ (s₁.setTop (mkF m 28 #[rv ac, iv 0, rv ab, iv 0, iv 1, iv 0, iv c0] [(.int 0), (.ref ab)]))
    refine go_st (fun t k => XS.iload X0.here hx rfl (hb hby d3_28) rfl k) ?_
    show Go _ _ _ _ (s₁.setTop (mkF m 30 #[rv ac, iv 0, rv ab, iv 0, iv 1, iv 0, iv c0] [(.int c0), (.int 0), (.ref ab)]))
    refine go_st (fun t k => XS.i2b X0.here hx rfl (hb hby d3_30) rfl k) ?_
    show Go _ _ _ _ (s₁.setTop (mkF m 31 #[rv ac, iv 0, rv ab, iv 0, iv 1, iv 0, iv c0] [(.int ((c0).toInt8.toInt32)), (.int 0), (.ref ab)]))
    obtain ⟨zc3, zA3, zq3, zS3, zN3, zH3, zG3⟩ := id H1
    have hin3 : ¬ ((0 : Int32) < 0 ∨ zc3.slots.size ≤ ((0 : Int32)).toNatClampNeg) := inb_of zS3 ⟨by decide, by decide⟩
    obtain ⟨T3, h3, X3, e3, W3, st3⟩ := stB X0 hx hZ e0 zA3 (j := (0 : Int32)) hin3 (g := (mkF m 31 #[rv ac, iv 0, rv ab, iv 0, iv 1, iv 0, iv c0] [(.int ((c0).toInt8.toInt32)), (.int 0), (.ref ab)])) rfl rfl (hb hby d3_31)
    have N3 := Fr.snoc X3 N0 g_ab
    have f4 : Arv Z h3 ab kb .byte (1 : Int32) [(.int (nar .byte ((c0).toInt8.toInt32)))] (.int (0 : Int32)) := Arv.set zA3 zq3 zS3 zN3 zH3 zG3 (fits_nar_byte _) W3 0 rfl (Nat.le_of_ble_eq_true rfl)
    refine go_st (fun t k => st3 t k) ?_
    show Go _ _ _ _ (T3.setTop (mkF m 32 #[rv ac, iv 0, rv ab, iv 0, iv 1, iv 0, iv c0] []))
    refine go_st (fun t k => XS.iinc X3.here hx rfl (hb hby d3_32) rfl (l' := #[rv ac, iv ((0 : Int32) + (1 : Int32)), rv ab, iv 0, iv 1, iv 0, iv c0]) rfl k) ?_
    rw [show ((0 : Int32) + (1 : Int32)) = (1 : Int32) from by decide]
    show Go _ _ _ _ (T3.setTop (mkF m 35 #[rv ac, iv 1, rv ab, iv 0, iv 1, iv 0, iv c0] []))
    refine go_st (fun t k => XS.iinc X3.here hx rfl (hb hby d3_35) rfl (l' := #[rv ac, iv 1, rv ab, iv ((0 : Int32) + (1 : Int32)), iv 1, iv 0, iv c0]) rfl k) ?_
    rw [show ((0 : Int32) + (1 : Int32)) = (1 : Int32) from by decide]
    show Go _ _ _ _ (T3.setTop (mkF m 38 #[rv ac, iv 1, rv ab, iv 1, iv 1, iv 0, iv c0] []))
    refine go_st (fun t k => XS.iinc X3.here hx rfl (hb hby d3_38) rfl (l' := #[rv ac, iv 1, rv ab, iv 1, iv 1, iv ((0 : Int32) + (1 : Int32)), iv c0]) rfl k) ?_
    rw [show ((0 : Int32) + (1 : Int32)) = (1 : Int32) from by decide]
    show Go _ _ _ _ (T3.setTop (mkF m 41 #[rv ac, iv 1, rv ab, iv 1, iv 1, iv 1, iv c0] []))
    refine go_st (fun t k => XS.goto X3.here hx rfl (pc0 := 41) (pc' := 3) rfl (hb hby d3_41) (by decide) (by decide) k) ?_
    show Go _ _ _ _ (T3.setTop (mkF m 3 #[rv ac, iv 1, rv ab, iv 1, iv 1, iv 1, iv c0] []))
    refine go_st (fun t k => XS.iload X3.here hx rfl (hb hby d3_3) rfl k) ?_
    show Go _ _ _ _ (T3.setTop (mkF m 5 #[rv ac, iv 1, rv ab, iv 1, iv 1, iv 1, iv c0] [(.int 1)]))
    refine go_st (fun t k => XS.iload X3.here hx rfl (hb hby d3_5) rfl k) ?_
    show Go _ _ _ _ (T3.setTop (mkF m 7 #[rv ac, iv 1, rv ab, iv 1, iv 1, iv 1, iv c0] [(.int 1), (.int 1)]))
    refine go_st (fun t k => XS.icmpYes X3.here hx rfl (pc0 := 7) (pc' := 44) rfl (hb hby d3_7) rfl (flt ((by decide) : ¬ ((1 : Int32) < (1 : Int32)))).2.1 (by decide) (by decide) k) ?_
    show Go _ _ _ _ (T3.setTop (mkF m 44 #[rv ac, iv 1, rv ab, iv 1, iv 1, iv 1, iv c0] []))
    refine go_st (fun t k => XS.iload X3.here hx rfl (hb hby d3_44) rfl k) ?_
    show Go _ _ _ _ (T3.setTop (mkF m 46 #[rv ac, iv 1, rv ab, iv 1, iv 1, iv 1, iv c0] [(.int 1)]))
    have ke5 : Keep h0 h3 [ab] := (Keep.wr (Keep.refl h0 [ab]) W3 (Or.inl (List.mem_of_getElem? (i := 0) rfl)))
    obtain ⟨fs, hr, hrun, hended, hW, hsame⟩ := X3.leave (v := some (.int 1)) (fun h => by rw [Bd.returns] at h; cases h)
    refine ⟨_, _, ?_, hrun, hended, _, _, rfl, ?_, ⟨_, rfl⟩, hW, hsame.mono (by decide) (by decide)⟩
    · exact retI X3 hx Bd.returns (hb hby d3_46) hr
    · show Q_cmp0_1 _ _ _ _ _ _ _ _ _ _ T3.heap _
      rw [e3]
      exact ⟨(1 : Int32), [(.int (nar .byte ((c0).toInt8.toInt32)))], rfl, N3, ke5, (Or.inl rfl), f4⟩
def Q_nbl1 (Z : State)  (h0 : Heap) (n0 : Nat) (vR : Option Value) (h : Heap) (L : List Loc) : Prop := vR = some (.int 2) ∧ Fr n0 L ∧ h = h0
theorem ef_nbl1 (m : MethodId) (x0 : Int32) : entryFrame m #[(.int x0)] 1 = mkF m 0 #[.val (.int x0)] [] := by first | (simp [entryFrame, mkF, argsToLocals, Value.category]; done) | rfl
set_option maxRecDepth 65536 in
set_option maxHeartbeats 40000000 in
theorem rm_nbl1 (l : Launch) (Z : State) (a0 : Array Value) (hw : ∀ d ∈ tables_1, d.before a0 Z = true) (ws : List Jvm.Cond)  (h0 : Heap) (n0 : Nat) (Z0 : n0 ≤ h0.size)  :
    MetFree l (⟨"java/lang/StringUTF16", "newBytesLength", "(I)I"⟩ : MethodName) (head1 (Jvm.Cond.code (⟨"java/lang/StringUTF16", "newBytesLength", "(I)I"⟩ : MethodName) jdk_52_method_3_code 1 (some .int) :: ws) ({ frames := 0, cells := 0, slots := 0, locals := 0 } : Room)) (fun a U => a = #[(.int 1)] ∧ Z.Warmed39 U.vm ∧ U.heap = h0) (fun _ _ _ _ _ => True) (fun _ U o U' => ∃ v L, o = .returned v ∧ Q_nbl1 Z h0 n0 v U'.heap L ∧ FrameEnd U o U' L ({ frames := 0, cells := 0, slots := 0, locals := 0 } : Room).cells ({ frames := 0, cells := 0, slots := 0, locals := 0 } : Room).slots) := by
  refine MetFree.of_bodySF (plainFor_of_name pn_java_lang_StringUTF16) hisR ?_
  intro p e s m args below meth c s₁ Bd hml0 hP hK
  obtain ⟨rfl, hZ, hh⟩ := hP
  have hx := Bd.exec
  have hby := Bd.bytes
  have hml : c.maxLocals = 1 := hml0
  have hown : s.vm.findClass "java/lang/StringUTF16" = some m.cls := findClass_of_methodNamed Bd.named
  have hnm := (name_of_methodNamed Bd.named Bd.method).1
  have X0 : Stand p l e ({ frames := 0, cells := 0, slots := 0, locals := 0 } : Room) s m #[(.int 1)] below meth c s₁ [] 0 0 := Stand.of_body Bd
  have e0 : s₁.heap = h0 := by rw [← hh, Bd.state]; rfl
  have N0 := Fr.nil n0
  refine go_st (fun t k => castTop (ef_nbl1 m (1 : Int32)) k) ?_
  show Go _ _ _ _ (s₁.setTop (mkF m 0 #[iv 1] []))
  refine go_st (fun t k => XS.iloadN X0.here hx rfl (hb hby d4_0) rfl k) ?_
  show Go _ _ _ _ (s₁.setTop (mkF m 1 #[iv 1] [(.int 1)]))
  refine go_st (fun t k => XS.ifYes X0.here hx rfl (pc0 := 1) (pc' := 12) rfl (hb hby d4_1) rfl ((if0 _ _).trans (flt ((by decide) : ¬ ((1 : Int32) < (0 : Int32)))).2.1) (by decide) (by decide) k) ?_
  show Go _ _ _ _ (s₁.setTop (mkF m 12 #[iv 1] []))
  refine go_st (fun t k => XS.iloadN X0.here hx rfl (hb hby d4_12) rfl k) ?_
  show Go _ _ _ _ (s₁.setTop (mkF m 13 #[iv 1] [(.int 1)]))
  refine go_st (fun t k => X0.ldcInt hx hown (mvT hZ (w70 hw)) (g := (mkF m 13 #[iv 1] [(.int 1)])) rfl (hb hby d4_13) t k) ?_
  show Go _ _ _ _ (s₁.setTop (mkF m 15 #[iv 1] [(.int 1073741823), (.int 1)]))
  refine go_st (fun t k => XS.icmpYes X0.here hx rfl (pc0 := 15) (pc' := 55) rfl (hb hby d4_15) rfl (tlt ((by decide) : (1 : Int32) < (1073741823 : Int32))).1 (by decide) (by decide) k) ?_
  show Go _ _ _ _ (s₁.setTop (mkF m 55 #[iv 1] []))
  refine go_st (fun t k => XS.iloadN X0.here hx rfl (hb hby d4_55) rfl k) ?_
  show Go _ _ _ _ (s₁.setTop (mkF m 56 #[iv 1] [(.int 1)]))
  refine go_st (fun t k => XS.iconst X0.here hx rfl (hb hby d4_56) k) ?_
  show Go _ _ _ _ (s₁.setTop (mkF m 57 #[iv 1] [(.int 1), (.int 1)]))
  refine go_st (fun t k => XS.ishl X0.here hx rfl (hb hby d4_57) rfl k) ?_
  rw [show ((1 : Int32) <<< ((1 : Int32) &&& 31)) = (2 : Int32) from by decide]
  show Go _ _ _ _ (s₁.setTop (mkF m 58 #[iv 1] [(.int 2)]))
  obtain ⟨fs, hr, hrun, hended, hW, hsame⟩ := X0.leave (v := some (.int 2)) (fun h => by rw [Bd.returns] at h; cases h)
  refine ⟨_, _, ?_, hrun, hended, _, _, rfl, ?_, ⟨_, rfl⟩, hW, hsame.mono (by decide) (by decide)⟩
  · exact retI X0 hx Bd.returns (hb hby d4_58) hr
  · show Q_nbl1 _ _ _ _ s₁.heap _
    rw [e0]
    exact ⟨rfl, N0, rfl⟩
def Q_nbf1 (Z : State)  (h0 : Heap) (n0 : Nat) (vR : Option Value) (h : Heap) (L : List Loc) : Prop := ∃ (t : Addr) (kb : ClassId), vR = some (.ref t) ∧ Fr n0 L ∧ Keep h0 h [] ∧ n0 ≤ t ∧ h0.size ≤ t ∧ (Arv Z h t kb .byte (2 : Int32) [(.int 0), (.int 0)] (.int (0 : Int32)))
theorem ef_nbf1 (m : MethodId) (x0 : Int32) : entryFrame m #[(.int x0)] 1 = mkF m 0 #[.val (.int x0)] [] := by first | (simp [entryFrame, mkF, argsToLocals, Value.category]; done) | rfl
set_option maxRecDepth 65536 in
set_option maxHeartbeats 40000000 in
theorem rm_nbf1 (l : Launch) (Z : State) (a0 : Array Value) (hw : ∀ d ∈ tables_1, d.before a0 Z = true) (ws : List Jvm.Cond)  (h0 : Heap) (n0 : Nat) (Z0 : n0 ≤ h0.size)  :
    MetFree l (⟨"java/lang/StringUTF16", "newBytesFor", "(I)[B"⟩ : MethodName) (head1 (Jvm.Cond.code (⟨"java/lang/StringUTF16", "newBytesFor", "(I)[B"⟩ : MethodName) jdk_52_method_2_code 1 (some (.array .byte)) :: ws) ({ frames := 1, cells := 1, slots := 2, locals := 12 } : Room)) (fun a U => a = #[(.int 1)] ∧ Z.Warmed39 U.vm ∧ U.heap = h0) (fun _ _ _ _ _ => True) (fun _ U o U' => ∃ v L, o = .returned v ∧ Q_nbf1 Z h0 n0 v U'.heap L ∧ FrameEnd U o U' L ({ frames := 1, cells := 1, slots := 2, locals := 12 } : Room).cells ({ frames := 1, cells := 1, slots := 2, locals := 12 } : Room).slots) := by
  refine MetFree.of_bodySF (plainFor_of_name pn_java_lang_StringUTF16) hisR ?_
  intro p e s m args below meth c s₁ Bd hml0 hP hK
  obtain ⟨rfl, hZ, hh⟩ := hP
  have hx := Bd.exec
  have hby := Bd.bytes
  have hml : c.maxLocals = 1 := hml0
  have hown : s.vm.findClass "java/lang/StringUTF16" = some m.cls := findClass_of_methodNamed Bd.named
  have hnm := (name_of_methodNamed Bd.named Bd.method).1
  have X0 : Stand p l e ({ frames := 1, cells := 1, slots := 2, locals := 12 } : Room) s m #[(.int 1)] below meth c s₁ [] 0 0 := Stand.of_body Bd
  have e0 : s₁.heap = h0 := by rw [← hh, Bd.state]; rfl
  have N0 := Fr.nil n0
  refine go_st (fun t k => castTop (ef_nbf1 m (1 : Int32)) k) ?_
  show Go _ _ _ _ (s₁.setTop (mkF m 0 #[iv 1] []))
  refine go_st (fun t k => XS.iloadN X0.here hx rfl (hb hby d5_0) rfl k) ?_
  show Go _ _ _ _ (s₁.setTop (mkF m 1 #[iv 1] [(.int 1)]))
  obtain ⟨_, _, ⟨T1, L1, kk1, nn1⟩, -, X1, ⟨Lc1, hQ1, lq1, yq1, zq1⟩, st1⟩ := Jvm.LawKit.callS X0 hx (y := (⟨"java/lang/StringUTF16", "newBytesLength", "(I)I"⟩ : MethodName)) hown (mvT hZ (w67 hw)) (mvT hZ (w68 hw)) (mvT hZ (w22 hw)) (mvT hZ (w69 hw)) (by decide) (backOf (W := 0) (rm_nbl1 l Z a0 hw []  h0 n0 (Nat.le_trans Z0 (Nat.le_refl _)) ) hZ (w69 hw) (w22 hw) (by decide) (by decide)) (g := (mkF m 1 #[iv 1] [(.int 1)])) rfl (by rw [hml]; rfl) (argsL := [(.int 1)]) (rest := []) (lenOf pd_1 rfl) rfl (by show 2 * 0 + _ ≤ _; exact Nat.le_of_eq rfl) (hb hby d5_1) (fun _ _ => ⟨rfl, e0, (by decide : 0 + 0 ≤ _), (by decide : 0 + 0 ≤ _)⟩)
  dsimp only [Pt.U, Pt.locs, Pt.cells, Pt.slots] at X1 lq1 yq1 zq1 st1 hQ1
  subst lq1 yq1 zq1
  obtain ⟨h1, e1⟩ : ∃ z, T1.heap = z := ⟨_, rfl⟩
  rw [e1] at hQ1
  obtain ⟨rfl, N1q, he1⟩ := hQ1
  have N1 := Fr.app N0 N1q
  rw [he1] at e1
  refine go_st st1 ?_
  show Go _ _ _ _ (T1.setTop (mkF m 4 #[iv 1] [(.int 2)]))
  obtain ⟨T2, h2, kc2, X2, e2, E2, A2, st2⟩ := newP X1 hx hZ (aty := .byte) (w24 hw) e1 (g := (mkF m 4 #[iv 1] [(.int 2)])) rfl (hb hby d5_4) rfl (by decide) (cap := 2) (by decide) (by decide) (by decide) (by decide)
  obtain ⟨b2, gq2⟩ : ∃ z, z = h0.size := ⟨_, rfl⟩
  rw [← gq2] at A2 st2
  have f3 : Arv Z h2 b2 kc2 .byte (2 : Int32) [(.int 0), (.int 0)] (.int 0) := (Arv.new A2 (by decide)).pad (pad_rep [] (.int 0) 2)
  refine go_st (fun t k => st2 t k) ?_
  show Go _ _ _ _ (T2.setTop (mkF m 6 #[iv 1] [(.ref b2)]))
  have g_b2 : n0 ≤ b2 := Nat.le_trans (Nat.le_trans Z0 (Nat.le_refl _)) (Nat.le_of_eq gq2.symm)
  have ke4 : Keep h0 h2 [] := (Keep.ext (Keep.refl h0 []) E2)
  obtain ⟨fs, hr, hrun, hended, hW, hsame⟩ := X2.leave (v := some (.ref b2)) (fun h => by rw [Bd.returns] at h; cases h)
  refine ⟨_, _, ?_, hrun, hended, _, _, rfl, ?_, ⟨_, rfl⟩, hW, hsame.mono (by decide) (by decide)⟩
  · exact retOut X2 hx Bd.returns rfl (Or.inr (Or.inr (Or.inr (Or.inr ⟨rfl, rfl, rfl⟩)))) (hb hby d5_6) hr
  · show Q_nbf1 _ _ _ _ T2.heap _
    rw [e2]
    exact ⟨b2, kc2, rfl, N1, ke4, g_b2, (Nat.le_of_eq gq2.symm), f3⟩
def Q_put10 (Z : State) (ab : Addr) (kb : ClassId) (cc : Int32) (y0 : Int32) (y1 : Int32) (h0 : Heap) (n0 : Nat) (vR : Option Value) (h : Heap) (L : List Loc) : Prop := vR = none ∧ Fr n0 L ∧ Keep h0 h [ab] ∧ (Arv Z h ab kb .byte (2 : Int32) [(.int (nar .byte (((cc >>> ((0 : Int32) &&& 31))).toInt8.toInt32))), (.int (nar .byte (((cc >>> ((8 : Int32) &&& 31))).toInt8.toInt32)))] (.int (0 : Int32)))
theorem ef_put10 (m : MethodId) (x0 : Addr) (x1 : Int32) (x2 : Int32) : entryFrame m #[(.ref x0), (.int x1), (.int x2)] 3 = mkF m 0 #[.val (.ref x0), .val (.int x1), .val (.int x2)] [] := by first | (simp [entryFrame, mkF, argsToLocals, Value.category]; done) | rfl
set_option maxRecDepth 65536 in
set_option maxHeartbeats 40000000 in
theorem rm_put10 (l : Launch) (Z : State) (a0 : Array Value) (hw : ∀ d ∈ tables_1, d.before a0 Z = true) (ws : List Jvm.Cond) (ab : Addr) (kb : ClassId) (cc : Int32) (y0 : Int32) (y1 : Int32) (h0 : Heap) (n0 : Nat) (Z0 : n0 ≤ h0.size) (H0 : Arv Z h0 ab kb .byte (2 : Int32) [(.int y0), (.int y1)] (.int (0 : Int32))) (g_ab : n0 ≤ ab) (AD : Sta Z Z.heap "java/lang/StringUTF16" "$assertionsDisabled" "Z" (.int (1 : Int32))) (HB : Sta Z Z.heap "java/lang/StringUTF16" "HI_BYTE_SHIFT" "I" (.int (0 : Int32))) (LB : Sta Z Z.heap "java/lang/StringUTF16" "LO_BYTE_SHIFT" "I" (.int (8 : Int32))) (O0 : Old Z n0 h0) :
    MetFree l (⟨"java/lang/StringUTF16", "putChar", "([BII)V"⟩ : MethodName) (head1 (Jvm.Cond.code (⟨"java/lang/StringUTF16", "putChar", "([BII)V"⟩ : MethodName) jdk_52_method_4_code 3 none :: ws) ({ frames := 0, cells := 0, slots := 0, locals := 0 } : Room)) (fun a U => a = #[(.ref ab), (.int 0), (.int cc)] ∧ Z.Warmed39 U.vm ∧ U.heap = h0) (fun _ _ _ _ _ => True) (fun _ U o U' => ∃ v L, o = .returned v ∧ Q_put10 Z ab kb cc y0 y1 h0 n0 v U'.heap L ∧ FrameEnd U o U' L ({ frames := 0, cells := 0, slots := 0, locals := 0 } : Room).cells ({ frames := 0, cells := 0, slots := 0, locals := 0 } : Room).slots) := by
  refine MetFree.of_bodySF (plainFor_of_name pn_java_lang_StringUTF16) hisR ?_
  intro p e s m args below meth c s₁ Bd hml0 hP hK
  obtain ⟨rfl, hZ, hh⟩ := hP
  have hx := Bd.exec
  have hby := Bd.bytes
  have hml : c.maxLocals = 3 := hml0
  have hown : s.vm.findClass "java/lang/StringUTF16" = some m.cls := findClass_of_methodNamed Bd.named
  have hnm := (name_of_methodNamed Bd.named Bd.method).1
  have X0 : Stand p l e ({ frames := 0, cells := 0, slots := 0, locals := 0 } : Room) s m #[(.ref ab), (.int 0), (.int cc)] below meth c s₁ [] 0 0 := Stand.of_body Bd
  have e0 : s₁.heap = h0 := by rw [← hh, Bd.state]; rfl
  have N0 := Fr.nil n0
  refine go_st (fun t k => castTop (ef_put10 m ab (0 : Int32) cc) k) ?_
  show Go _ _ _ _ (s₁.setTop (mkF m 0 #[rv ab, iv 0, iv cc] []))
  obtain ⟨T1, X1, e1, st1⟩ := getS2 X0 hx hZ hown (host := "") (Or.inl (w74 hw)) Via.refl e0 (Sta.ext O0.2 AD) (g := (mkF m 0 #[rv ab, iv 0, iv cc] [])) rfl (hb hby d6_0)
  refine go_st (fun t k => st1 t k) ?_
  show Go _ _ _ _ (T1.setTop (mkF m 3 #[rv ab, iv 0, iv cc] [(.int 1)]))
  refine go_st (fun t k => XS.ifYes X1.here hx rfl (pc0 := 3) (pc' := 28) rfl (hb hby d6_3) rfl ((if0 _ _).trans (feq ((by decide) : ¬ ((1 : Int32) = (0 : Int32)))).2) (by decide) (by decide) k) ?_
  show Go _ _ _ _ (T1.setTop (mkF m 28 #[rv ab, iv 0, iv cc] []))
  refine go_st (fun t k => XS.iloadN X1.here hx rfl (hb hby d6_28) rfl k) ?_
  show Go _ _ _ _ (T1.setTop (mkF m 29 #[rv ab, iv 0, iv cc] [(.int 0)]))
  refine go_st (fun t k => XS.iconst X1.here hx rfl (hb hby d6_29) k) ?_
  show Go _ _ _ _ (T1.setTop (mkF m 30 #[rv ab, iv 0, iv cc] [(.int 1), (.int 0)]))
  refine go_st (fun t k => XS.ishl X1.here hx rfl (hb hby d6_30) rfl k) ?_
  rw [show ((0 : Int32) <<< ((1 : Int32) &&& 31)) = (0 : Int32) from by decide]
  show Go _ _ _ _ (T1.setTop (mkF m 31 #[rv ab, iv 0, iv cc] [(.int 0)]))
  refine go_st (fun t k => XS.istoreN X1.here hx rfl (hb hby d6_31) rfl (l' := #[rv ab, iv 0, iv cc]) rfl k) ?_
  show Go _ _ _ _ (T1.setTop (mkF m 32 #[rv ab, iv 0, iv cc] []))
  refine go_st (fun t k => XS.aloadN X1.here hx rfl (hb hby d6_32) rfl rfl k) ?_
  show Go _ _ _ _ (T1.setTop (mkF m 33 #[rv ab, iv 0, iv cc] [(.ref ab)]))
  refine go_st (fun t k => XS.iloadN X1.here hx rfl (hb hby d6_33) rfl k) ?_
  show Go _ _ _ _ (T1.setTop (mkF m 34 #[rv ab, iv 0, iv cc] [(.int 0), (.ref ab)]))
  refine go_st (fun t k => XS.iinc X1.here hx rfl (hb hby d6_34) rfl (l' := #[rv ab, iv ((0 : Int32) + (1 : Int32)), iv cc]) rfl k) ?_
  rw [show ((0 : Int32) + (1 : Int32)) = (1 : Int32) from by decide]
  show Go _ _ _ _ (T1.setTop (mkF m 37 #[rv ab, iv 1, iv cc] [(.int 0), (.ref ab)]))
  refine go_st (fun t k => XS.iloadN X1.here hx rfl (hb hby d6_37) rfl k) ?_
  show Go _ _ _ _ (T1.setTop (mkF m 38 #[rv ab, iv 1, iv cc] [(.int cc), (.int 0), (.ref ab)]))
  obtain ⟨T2, X2, e2, st2⟩ := getS2 X1 hx hZ hown (host := "") (Or.inl (w75 hw)) Via.refl e1 (Sta.ext O0.2 HB) (g := (mkF m 38 #[rv ab, iv 1, iv cc] [(.int cc), (.int 0), (.ref ab)])) rfl (hb hby d6_38)
  refine go_st (fun t k => st2 t k) ?_
  show Go _ _ _ _ (T2.setTop (mkF m 41 #[rv ab, iv 1, iv cc] [(.int 0), (.int cc), (.int 0), (.ref ab)]))
  refine go_st (fun t k => XS.ishr X2.here hx rfl (hb hby d6_41) rfl k) ?_
  show Go _ _ _ _ (T2.setTop (mkF m 42 #[rv ab, iv 1, iv cc] [(.int (cc >>> ((0 : Int32) &&& 31))), (.int 0), (.ref ab)]))
  refine go_st (fun t k => XS.i2b X2.here hx rfl (hb hby d6_42) rfl k) ?_
  show Go _ _ _ _ (T2.setTop (mkF m 43 #[rv ab, iv 1, iv cc] [(.int (((cc >>> ((0 : Int32) &&& 31))).toInt8.toInt32)), (.int 0), (.ref ab)]))
  obtain ⟨zc3, zA3, zq3, zS3, zN3, zH3, zG3⟩ := id H0
  have hin3 : ¬ ((0 : Int32) < 0 ∨ zc3.slots.size ≤ ((0 : Int32)).toNatClampNeg) := inb_of zS3 ⟨by decide, by decide⟩
  obtain ⟨T3, h3, X3, e3, W3, st3⟩ := stB X2 hx hZ e2 zA3 (j := (0 : Int32)) hin3 (g := (mkF m 43 #[rv ab, iv 1, iv cc] [(.int (((cc >>> ((0 : Int32) &&& 31))).toInt8.toInt32)), (.int 0), (.ref ab)])) rfl rfl (hb hby d6_43)
  have N3 := Fr.snoc X3 N0 g_ab
  have f4 : Arv Z h3 ab kb .byte (2 : Int32) [(.int (nar .byte (((cc >>> ((0 : Int32) &&& 31))).toInt8.toInt32))), (.int y1)] (.int (0 : Int32)) := Arv.set zA3 zq3 zS3 zN3 zH3 zG3 (fits_nar_byte _) W3 0 rfl (Nat.le_of_ble_eq_true rfl)
  refine go_st (fun t k => st3 t k) ?_
  show Go _ _ _ _ (T3.setTop (mkF m 44 #[rv ab, iv 1, iv cc] []))
  refine go_st (fun t k => XS.aloadN X3.here hx rfl (hb hby d6_44) rfl rfl k) ?_
  show Go _ _ _ _ (T3.setTop (mkF m 45 #[rv ab, iv 1, iv cc] [(.ref ab)]))
  refine go_st (fun t k => XS.iloadN X3.here hx rfl (hb hby d6_45) rfl k) ?_
  show Go _ _ _ _ (T3.setTop (mkF m 46 #[rv ab, iv 1, iv cc] [(.int 1), (.ref ab)]))
  refine go_st (fun t k => XS.iloadN X3.here hx rfl (hb hby d6_46) rfl k) ?_
  show Go _ _ _ _ (T3.setTop (mkF m 47 #[rv ab, iv 1, iv cc] [(.int cc), (.int 1), (.ref ab)]))
  have oe6 : Old Z n0 h3 := (Old.wr O0 W3 g_ab)
  obtain ⟨T5, X5, e5, st5⟩ := getS2 X3 hx hZ hown (host := "") (Or.inl (w76 hw)) Via.refl e3 (Sta.ext oe6.2 LB) (g := (mkF m 47 #[rv ab, iv 1, iv cc] [(.int cc), (.int 1), (.ref ab)])) rfl (hb hby d6_47)
  refine go_st (fun t k => st5 t k) ?_
  show Go _ _ _ _ (T5.setTop (mkF m 50 #[rv ab, iv 1, iv cc] [(.int 8), (.int cc), (.int 1), (.ref ab)]))
  refine go_st (fun t k => XS.ishr X5.here hx rfl (hb hby d6_50) rfl k) ?_
  show Go _ _ _ _ (T5.setTop (mkF m 51 #[rv ab, iv 1, iv cc] [(.int (cc >>> ((8 : Int32) &&& 31))), (.int 1), (.ref ab)]))
  refine go_st (fun t k => XS.i2b X5.here hx rfl (hb hby d6_51) rfl k) ?_
  show Go _ _ _ _ (T5.setTop (mkF m 52 #[rv ab, iv 1, iv cc] [(.int (((cc >>> ((8 : Int32) &&& 31))).toInt8.toInt32)), (.int 1), (.ref ab)]))
  obtain ⟨zc7, zA7, zq7, zS7, zN7, zH7, zG7⟩ := id f4
  have hin7 : ¬ ((1 : Int32) < 0 ∨ zc7.slots.size ≤ ((1 : Int32)).toNatClampNeg) := inb_of zS7 ⟨by decide, by decide⟩
  obtain ⟨T7, h7, X7, e7, W7, st7⟩ := stB X5 hx hZ e5 zA7 (j := (1 : Int32)) hin7 (g := (mkF m 52 #[rv ab, iv 1, iv cc] [(.int (((cc >>> ((8 : Int32) &&& 31))).toInt8.toInt32)), (.int 1), (.ref ab)])) rfl rfl (hb hby d6_52)
  have N7 := Fr.snoc X7 N3 g_ab
  have f8 : Arv Z h7 ab kb .byte (2 : Int32) [(.int (nar .byte (((cc >>> ((0 : Int32) &&& 31))).toInt8.toInt32))), (.int (nar .byte (((cc >>> ((8 : Int32) &&& 31))).toInt8.toInt32)))] (.int (0 : Int32)) := Arv.set zA7 zq7 zS7 zN7 zH7 zG7 (fits_nar_byte _) W7 1 rfl (Nat.le_of_ble_eq_true rfl)
  refine go_st (fun t k => st7 t k) ?_
  show Go _ _ _ _ (T7.setTop (mkF m 53 #[rv ab, iv 1, iv cc] []))
  have ke9 : Keep h0 h3 [ab] := (Keep.wr (Keep.refl h0 [ab]) W3 (Or.inl (List.mem_of_getElem? (i := 0) rfl)))
  have ke10 : Keep h0 h7 [ab] := (Keep.wr ke9 W7 (Or.inl (List.mem_of_getElem? (i := 0) rfl)))
  obtain ⟨fs, hr, hrun, hended, hW, hsame⟩ := X7.leave (v := none) (fun _ => rfl)
  refine ⟨_, _, ?_, hrun, hended, _, _, rfl, ?_, ⟨_, rfl⟩, hW, hsame.mono (by decide) (by decide)⟩
  · exact X7.returnOut hx Bd.returns (hb hby d6_53) hr
  · show Q_put10 _ _ _ _ _ _ _ _ _ T7.heap _
    rw [e7]
    exact ⟨rfl, N7, ke10, f8⟩
def Q_tob1 (Z : State) (ac : Addr) (kc : ClassId) (c0 : Int32) (h0 : Heap) (n0 : Nat) (vR : Option Value) (h : Heap) (L : List Loc) : Prop := ∃ (t : Addr) (kb : ClassId), vR = some (.ref t) ∧ Fr n0 L ∧ Keep h0 h [] ∧ n0 ≤ t ∧ h0.size ≤ t ∧ (Arv Z h t kb .byte (2 : Int32) [(.int (nar .byte (((c0 >>> ((0 : Int32) &&& 31))).toInt8.toInt32))), (.int (nar .byte (((c0 >>> ((8 : Int32) &&& 31))).toInt8.toInt32)))] (.int (0 : Int32)))
theorem ef_tob1 (m : MethodId) (x0 : Addr) (x1 : Int32) (x2 : Int32) : entryFrame m #[(.ref x0), (.int x1), (.int x2)] 5 = mkF m 0 #[.val (.ref x0), .val (.int x1), .val (.int x2), .unset, .unset] [] := by first | (simp [entryFrame, mkF, argsToLocals, Value.category]; done) | rfl
set_option maxRecDepth 65536 in
set_option maxHeartbeats 40000000 in
theorem rm_tob1 (l : Launch) (Z : State) (a0 : Array Value) (hw : ∀ d ∈ tables_1, d.before a0 Z = true) (ws : List Jvm.Cond) (ac : Addr) (kc : ClassId) (c0 : Int32) (h0 : Heap) (n0 : Nat) (Z0 : n0 ≤ h0.size) (H0 : Arv Z h0 ac kc .char (1 : Int32) [(.int c0)] (.int (0 : Int32))) (AD : Sta Z Z.heap "java/lang/StringUTF16" "$assertionsDisabled" "Z" (.int (1 : Int32))) (HB : Sta Z Z.heap "java/lang/StringUTF16" "HI_BYTE_SHIFT" "I" (.int (0 : Int32))) (LB : Sta Z Z.heap "java/lang/StringUTF16" "LO_BYTE_SHIFT" "I" (.int (8 : Int32))) (O0 : Old Z n0 h0) :
    MetFree l (⟨"java/lang/StringUTF16", "toBytes", "([CII)[B"⟩ : MethodName) (head1 (Jvm.Cond.code (⟨"java/lang/StringUTF16", "toBytes", "([CII)[B"⟩ : MethodName) jdk_52_method_14_code 5 (some (.array .byte)) :: ws) ({ frames := 2, cells := 1, slots := 2, locals := 24 } : Room)) (fun a U => a = #[(.ref ac), (.int 0), (.int 1)] ∧ Z.Warmed39 U.vm ∧ U.heap = h0) (fun _ _ _ _ _ => True) (fun _ U o U' => ∃ v L, o = .returned v ∧ Q_tob1 Z ac kc c0 h0 n0 v U'.heap L ∧ FrameEnd U o U' L ({ frames := 2, cells := 1, slots := 2, locals := 24 } : Room).cells ({ frames := 2, cells := 1, slots := 2, locals := 24 } : Room).slots) := by
  refine MetFree.of_bodySF (plainFor_of_name pn_java_lang_StringUTF16) hisR ?_
  intro p e s m args below meth c s₁ Bd hml0 hP hK
  obtain ⟨rfl, hZ, hh⟩ := hP
  have hx := Bd.exec
  have hby := Bd.bytes
  have hml : c.maxLocals = 5 := hml0
  have hown : s.vm.findClass "java/lang/StringUTF16" = some m.cls := findClass_of_methodNamed Bd.named
  have hnm := (name_of_methodNamed Bd.named Bd.method).1
  have X0 : Stand p l e ({ frames := 2, cells := 1, slots := 2, locals := 24 } : Room) s m #[(.ref ac), (.int 0), (.int 1)] below meth c s₁ [] 0 0 := Stand.of_body Bd
  have e0 : s₁.heap = h0 := by rw [← hh, Bd.state]; rfl
  have N0 := Fr.nil n0
  refine go_st (fun t k => castTop (ef_tob1 m ac (0 : Int32) (1 : Int32)) k) ?_
  show Go _ _ _ _ (s₁.setTop (mkF m 0 #[rv ac, iv 0, iv 1, .unset, .unset] []))
  refine go_st (fun t k => XS.iloadN X0.here hx rfl (hb hby d7_0) rfl k) ?_
  show Go _ _ _ _ (s₁.setTop (mkF m 1 #[rv ac, iv 0, iv 1, .unset, .unset] [(.int 1)]))
  obtain ⟨_, _, ⟨T1, L1, kk1, nn1⟩, -, X1, ⟨Lc1, hQ1, lq1, yq1, zq1⟩, st1⟩ := Jvm.LawKit.callS X0 hx (y := (⟨"java/lang/StringUTF16", "newBytesFor", "(I)[B"⟩ : MethodName)) hown (mvT hZ (w64 hw)) (mvT hZ (w65 hw)) (mvT hZ (w22 hw)) (mvT hZ (w66 hw)) (by decide) (backOf (W := 0) (rm_nbf1 l Z a0 hw []  h0 n0 (Nat.le_trans Z0 (Nat.le_refl _)) ) hZ (w66 hw) (w22 hw) (by decide) (by decide)) (g := (mkF m 1 #[rv ac, iv 0, iv 1, .unset, .unset] [(.int 1)])) rfl (by rw [hml]; rfl) (argsL := [(.int 1)]) (rest := []) (lenOf pd_2 rfl) rfl (by show 2 * 0 + _ ≤ _; exact Nat.le_of_eq rfl) (hb hby d7_1) (fun _ _ => ⟨rfl, e0, (by decide : 0 + 1 ≤ _), (by decide : 0 + 2 ≤ _)⟩)
  dsimp only [Pt.U, Pt.locs, Pt.cells, Pt.slots] at X1 lq1 yq1 zq1 st1 hQ1
  subst lq1 yq1 zq1
  obtain ⟨h1, e1⟩ : ∃ z, T1.heap = z := ⟨_, rfl⟩
  rw [e1] at hQ1
  obtain ⟨t_1, kb_1, rfl, N1q, K1, gf1_0, lf1_0, p1_1⟩ := hQ1
  have N1 := Fr.app N0 N1q
  refine go_st st1 ?_
  show Go _ _ _ _ (T1.setTop (mkF m 4 #[rv ac, iv 0, iv 1, .unset, .unset] [(.ref t_1)]))
  refine go_st (fun t k => XS.astoreN X1.here hx rfl (hb hby d7_4) rfl rfl (l' := #[rv ac, iv 0, iv 1, rv t_1, .unset]) rfl k) ?_
  show Go _ _ _ _ (T1.setTop (mkF m 5 #[rv ac, iv 0, iv 1, rv t_1, .unset] []))
  refine go_st (fun t k => XS.iconst X1.here hx rfl (hb hby d7_5) k) ?_
  show Go _ _ _ _ (T1.setTop (mkF m 6 #[rv ac, iv 0, iv 1, rv t_1, .unset] [(.int 0)]))
  refine go_st (fun t k => XS.istore X1.here hx rfl (hb hby d7_6) rfl (l' := #[rv ac, iv 0, iv 1, rv t_1, iv 0]) rfl k) ?_
  show Go _ _ _ _ (T1.setTop (mkF m 8 #[rv ac, iv 0, iv 1, rv t_1, iv 0] []))
  refine go_st (fun t k => XS.iload X1.here hx rfl (hb hby d7_8) rfl k) ?_
  show Go _ _ _ _ (T1.setTop (mkF m 10 #[rv ac, iv 0, iv 1, rv t_1, iv 0] [(.int 0)]))
  refine go_st (fun t k => XS.iloadN X1.here hx rfl (hb hby d7_10) rfl k) ?_
  show Go _ _ _ _ (T1.setTop (mkF m 11 #[rv ac, iv 0, iv 1, rv t_1, iv 0] [(.int 1), (.int 0)]))
  refine go_st (fun t k => XS.icmpNo X1.here hx rfl (hb hby d7_11) rfl (tlt ((by decide) : (0 : Int32) < (1 : Int32))).2.1 k) ?_
  show Go _ _ _ _ (T1.setTop (mkF m 14 #[rv ac, iv 0, iv 1, rv t_1, iv 0] []))
  refine go_st (fun t k => XS.aloadN X1.here hx rfl (hb hby d7_14) rfl rfl k) ?_
  show Go _ _ _ _ (T1.setTop (mkF m 15 #[rv ac, iv 0, iv 1, rv t_1, iv 0] [(.ref t_1)]))
  refine go_st (fun t k => XS.iload X1.here hx rfl (hb hby d7_15) rfl k) ?_
  show Go _ _ _ _ (T1.setTop (mkF m 17 #[rv ac, iv 0, iv 1, rv t_1, iv 0] [(.int 0), (.ref t_1)]))
  refine go_st (fun t k => XS.aloadN X1.here hx rfl (hb hby d7_17) rfl rfl k) ?_
  show Go _ _ _ _ (T1.setTop (mkF m 18 #[rv ac, iv 0, iv 1, rv t_1, iv 0] [(.ref ac), (.int 0), (.ref t_1)]))
  refine go_st (fun t k => XS.iloadN X1.here hx rfl (hb hby d7_18) rfl k) ?_
  show Go _ _ _ _ (T1.setTop (mkF m 19 #[rv ac, iv 0, iv 1, rv t_1, iv 0] [(.int 0), (.ref ac), (.int 0), (.ref t_1)]))
  have f2 : Arv Z h1 ac kc .char (1 : Int32) [(.int c0)] (.int (0 : Int32)) := (H0.keep K1 nin0)
  obtain ⟨zc3, zA3, zq3, zS3, zN3, zH3, zG3⟩ := id f2
  have hin3 : ¬ ((0 : Int32) < 0 ∨ zc3.slots.size ≤ ((0 : Int32)).toNatClampNeg) := inb_of zS3 ⟨by decide, by decide⟩
  have hat3 : zc3.slots[((0 : Int32)).toNatClampNeg]? = some (.int c0) := Has.at zH3 hin3 rfl
  refine go_st (fun t k => X1.caload hx (j := (0 : Int32)) (v := (.int c0)) (by rw [e1]; exact zA3.1) (State.isArrayOf_alike hZ.alike zA3.2.1) zA3.2.2 hin3 hat3 (g := (mkF m 19 #[rv ac, iv 0, iv 1, rv t_1, iv 0] [(.int 0), (.ref ac), (.int 0), (.ref t_1)])) rfl rfl (hb hby d7_19) t k) ?_
  show Go _ _ _ _ (T1.setTop (mkF m 20 #[rv ac, iv 0, iv 1, rv t_1, iv 0] [(.int c0), (.int 0), (.ref t_1)]))
  have oe4 : Old Z n0 h1 := (Old.keep O0 K1 all0)
  obtain ⟨_, _, ⟨T5, L5, kk5, nn5⟩, -, X5, ⟨Lc5, hQ5, lq5, yq5, zq5⟩, st5⟩ := Jvm.LawKit.callS X1 hx (y := (⟨"java/lang/StringUTF16", "putChar", "([BII)V"⟩ : MethodName)) hown (mvT hZ (w71 hw)) (mvT hZ (w72 hw)) (mvT hZ (w22 hw)) (mvT hZ (w73 hw)) (by decide) (backOf (W := 0) (rm_put10 l Z a0 hw [] t_1 kb_1 c0 (0 : Int32) (0 : Int32) h1 n0 (Nat.le_trans Z0 K1.1) p1_1 gf1_0 AD HB LB oe4) hZ (w73 hw) (w22 hw) (by decide) (by decide)) (g := (mkF m 20 #[rv ac, iv 0, iv 1, rv t_1, iv 0] [(.int c0), (.int 0), (.ref t_1)])) rfl (by rw [hml]; rfl) (argsL := [(.ref t_1), (.int 0), (.int c0)]) (rest := []) (lenOf pd_3 rfl) rfl (by show 2 * 0 + _ ≤ _; exact Nat.le_of_eq rfl) (hb hby d7_20) (fun _ _ => ⟨rfl, e1, (by decide : 1 + 0 ≤ _), (by decide : 2 + 0 ≤ _)⟩)
  dsimp only [Pt.U, Pt.locs, Pt.cells, Pt.slots] at X5 lq5 yq5 zq5 st5 hQ5
  subst lq5 yq5 zq5
  obtain ⟨h5, e5⟩ : ∃ z, T5.heap = z := ⟨_, rfl⟩
  rw [e5] at hQ5
  obtain ⟨rfl, N5q, K5, p5_0⟩ := hQ5
  have N5 := Fr.app N1 N5q
  refine go_st st5 ?_
  show Go _ _ _ _ (T5.setTop (mkF m 23 #[rv ac, iv 0, iv 1, rv t_1, iv 0] []))
  refine go_st (fun t k => XS.iinc X5.here hx rfl (hb hby d7_23) rfl (l' := #[rv ac, iv ((0 : Int32) + (1 : Int32)), iv 1, rv t_1, iv 0]) rfl k) ?_
  rw [show ((0 : Int32) + (1 : Int32)) = (1 : Int32) from by decide]
  show Go _ _ _ _ (T5.setTop (mkF m 26 #[rv ac, iv 1, iv 1, rv t_1, iv 0] []))
  refine go_st (fun t k => XS.iinc X5.here hx rfl (hb hby d7_26) rfl (l' := #[rv ac, iv 1, iv 1, rv t_1, iv ((0 : Int32) + (1 : Int32))]) rfl k) ?_
  rw [show ((0 : Int32) + (1 : Int32)) = (1 : Int32) from by decide]
  show Go _ _ _ _ (T5.setTop (mkF m 29 #[rv ac, iv 1, iv 1, rv t_1, iv 1] []))
  refine go_st (fun t k => XS.goto X5.here hx rfl (pc0 := 29) (pc' := 8) rfl (hb hby d7_29) (by decide) (by decide) k) ?_
  show Go _ _ _ _ (T5.setTop (mkF m 8 #[rv ac, iv 1, iv 1, rv t_1, iv 1] []))
  refine go_st (fun t k => XS.iload X5.here hx rfl (hb hby d7_8) rfl k) ?_
  show Go _ _ _ _ (T5.setTop (mkF m 10 #[rv ac, iv 1, iv 1, rv t_1, iv 1] [(.int 1)]))
  refine go_st (fun t k => XS.iloadN X5.here hx rfl (hb hby d7_10) rfl k) ?_
  show Go _ _ _ _ (T5.setTop (mkF m 11 #[rv ac, iv 1, iv 1, rv t_1, iv 1] [(.int 1), (.int 1)]))
  refine go_st (fun t k => XS.icmpYes X5.here hx rfl (pc0 := 11) (pc' := 32) rfl (hb hby d7_11) rfl (flt ((by decide) : ¬ ((1 : Int32) < (1 : Int32)))).2.1 (by decide) (by decide) k) ?_
  show Go _ _ _ _ (T5.setTop (mkF m 32 #[rv ac, iv 1, iv 1, rv t_1, iv 1] []))
  refine go_st (fun t k => XS.aloadN X5.here hx rfl (hb hby d7_32) rfl rfl k) ?_
  show Go _ _ _ _ (T5.setTop (mkF m 33 #[rv ac, iv 1, iv 1, rv t_1, iv 1] [(.ref t_1)]))
  have ke6 : Keep h0 h1 [] := (Keep.trans (Keep.refl h0 []) K1 all0)
  have ke7 : Keep h0 h5 [] := (Keep.trans ke6 K5 (allS (Or.inr lf1_0) all0))
  obtain ⟨fs, hr, hrun, hended, hW, hsame⟩ := X5.leave (v := some (.ref t_1)) (fun h => by rw [Bd.returns] at h; cases h)
  refine ⟨_, _, ?_, hrun, hended, _, _, rfl, ?_, ⟨_, rfl⟩, hW, hsame.mono (by decide) (by decide)⟩
  · exact retOut X5 hx Bd.returns rfl (Or.inr (Or.inr (Or.inr (Or.inr ⟨rfl, rfl, rfl⟩)))) (hb hby d7_33) hr
  · show Q_tob1 _ _ _ _ _ _ _ T5.heap _
    rw [e5]
    exact ⟨t_1, kb_1, rfl, N5, ke7, gf1_0, lf1_0, p5_0⟩
def Q_getc10 (Z : State) (ab : Addr) (kb : ClassId) (c0 : Int32) (h0 : Heap) (n0 : Nat) (vR : Option Value) (h : Heap) (L : List Loc) : Prop := ∃ (r : Int32), vR = some (.int (nar .char r)) ∧ Fr n0 L ∧ h = h0 ∧ ((255 : Int32) < nar .char r)
theorem ef_getc10 (m : MethodId) (x0 : Addr) (x1 : Int32) : entryFrame m #[(.ref x0), (.int x1)] 2 = mkF m 0 #[.val (.ref x0), .val (.int x1)] [] := by first | (simp [entryFrame, mkF, argsToLocals, Value.category]; done) | rfl
set_option maxRecDepth 65536 in
set_option maxHeartbeats 40000000 in
theorem rm_getc10 (l : Launch) (Z : State) (a0 : Array Value) (hw : ∀ d ∈ tables_1, d.before a0 Z = true) (ws : List Jvm.Cond) (ab : Addr) (kb : ClassId) (c0 : Int32) (h0 : Heap) (n0 : Nat) (Z0 : n0 ≤ h0.size) (H0 : Arv Z h0 ab kb .byte (2 : Int32) [(.int (nar .byte (((c0 >>> ((0 : Int32) &&& 31))).toInt8.toInt32))), (.int (nar .byte (((c0 >>> ((8 : Int32) &&& 31))).toInt8.toInt32)))] (.int (0 : Int32))) (AD : Sta Z Z.heap "java/lang/StringUTF16" "$assertionsDisabled" "Z" (.int (1 : Int32))) (HB : Sta Z Z.heap "java/lang/StringUTF16" "HI_BYTE_SHIFT" "I" (.int (0 : Int32))) (LB : Sta Z Z.heap "java/lang/StringUTF16" "LO_BYTE_SHIFT" "I" (.int (8 : Int32))) (r0 : 0 ≤ c0.toInt ∧ c0.toInt ≤ 65535) (hg : (255 : Int32) < c0) (O0 : Old Z n0 h0) :
    MetFree l (⟨"java/lang/StringUTF16", "getChar", "([BI)C"⟩ : MethodName) (head1 (Jvm.Cond.code (⟨"java/lang/StringUTF16", "getChar", "([BI)C"⟩ : MethodName) jdk_52_method_5_code 2 (some .char) :: ws) ({ frames := 0, cells := 0, slots := 0, locals := 0 } : Room)) (fun a U => a = #[(.ref ab), (.int 0)] ∧ Z.Warmed39 U.vm ∧ U.heap = h0) (fun _ _ _ _ _ => True) (fun _ U o U' => ∃ v L, o = .returned v ∧ Q_getc10 Z ab kb c0 h0 n0 v U'.heap L ∧ FrameEnd U o U' L ({ frames := 0, cells := 0, slots := 0, locals := 0 } : Room).cells ({ frames := 0, cells := 0, slots := 0, locals := 0 } : Room).slots) := by
  refine MetFree.of_bodySF (plainFor_of_name pn_java_lang_StringUTF16) hisR ?_
  intro p e s m args below meth c s₁ Bd hml0 hP hK
  obtain ⟨rfl, hZ, hh⟩ := hP
  have hx := Bd.exec
  have hby := Bd.bytes
  have hml : c.maxLocals = 2 := hml0
  have hown : s.vm.findClass "java/lang/StringUTF16" = some m.cls := findClass_of_methodNamed Bd.named
  have hnm := (name_of_methodNamed Bd.named Bd.method).1
  have X0 : Stand p l e ({ frames := 0, cells := 0, slots := 0, locals := 0 } : Room) s m #[(.ref ab), (.int 0)] below meth c s₁ [] 0 0 := Stand.of_body Bd
  have e0 : s₁.heap = h0 := by rw [← hh, Bd.state]; rfl
  have N0 := Fr.nil n0
  refine go_st (fun t k => castTop (ef_getc10 m ab (0 : Int32)) k) ?_
  show Go _ _ _ _ (s₁.setTop (mkF m 0 #[rv ab, iv 0] []))
  obtain ⟨T1, X1, e1, st1⟩ := getS2 X0 hx hZ hown (host := "") (Or.inl (w74 hw)) Via.refl e0 (Sta.ext O0.2 AD) (g := (mkF m 0 #[rv ab, iv 0] [])) rfl (hb hby d8_0)
  refine go_st (fun t k => st1 t k) ?_
  show Go _ _ _ _ (T1.setTop (mkF m 3 #[rv ab, iv 0] [(.int 1)]))
  refine go_st (fun t k => XS.ifYes X1.here hx rfl (pc0 := 3) (pc' := 28) rfl (hb hby d8_3) rfl ((if0 _ _).trans (feq ((by decide) : ¬ ((1 : Int32) = (0 : Int32)))).2) (by decide) (by decide) k) ?_
  show Go _ _ _ _ (T1.setTop (mkF m 28 #[rv ab, iv 0] []))
  refine go_st (fun t k => XS.iloadN X1.here hx rfl (hb hby d8_28) rfl k) ?_
  show Go _ _ _ _ (T1.setTop (mkF m 29 #[rv ab, iv 0] [(.int 0)]))
  refine go_st (fun t k => XS.iconst X1.here hx rfl (hb hby d8_29) k) ?_
  show Go _ _ _ _ (T1.setTop (mkF m 30 #[rv ab, iv 0] [(.int 1), (.int 0)]))
  refine go_st (fun t k => XS.ishl X1.here hx rfl (hb hby d8_30) rfl k) ?_
  rw [show ((0 : Int32) <<< ((1 : Int32) &&& 31)) = (0 : Int32) from by decide]
  show Go _ _ _ _ (T1.setTop (mkF m 31 #[rv ab, iv 0] [(.int 0)]))
  refine go_st (fun t k => XS.istoreN X1.here hx rfl (hb hby d8_31) rfl (l' := #[rv ab, iv 0]) rfl k) ?_
  show Go _ _ _ _ (T1.setTop (mkF m 32 #[rv ab, iv 0] []))
  refine go_st (fun t k => XS.aloadN X1.here hx rfl (hb hby d8_32) rfl rfl k) ?_
  show Go _ _ _ _ (T1.setTop (mkF m 33 #[rv ab, iv 0] [(.ref ab)]))
  refine go_st (fun t k => XS.iloadN X1.here hx rfl (hb hby d8_33) rfl k) ?_
  show Go _ _ _ _ (T1.setTop (mkF m 34 #[rv ab, iv 0] [(.int 0), (.ref ab)]))
  refine go_st (fun t k => XS.iinc X1.here hx rfl (hb hby d8_34) rfl (l' := #[rv ab, iv ((0 : Int32) + (1 : Int32))]) rfl k) ?_
  rw [show ((0 : Int32) + (1 : Int32)) = (1 : Int32) from by decide]
  show Go _ _ _ _ (T1.setTop (mkF m 37 #[rv ab, iv 1] [(.int 0), (.ref ab)]))
  obtain ⟨zc2, zA2, zq2, zS2, zN2, zH2, zG2⟩ := id H0
  have hin2 : ¬ ((0 : Int32) < 0 ∨ zc2.slots.size ≤ ((0 : Int32)).toNatClampNeg) := inb_of zS2 ⟨by decide, by decide⟩
  have hat2 : zc2.slots[((0 : Int32)).toNatClampNeg]? = some (.int (nar .byte (((c0 >>> ((0 : Int32) &&& 31))).toInt8.toInt32))) := Has.at zH2 hin2 rfl
  refine go_st (fun t k => X1.baloadBytes hx (j := (0 : Int32)) (v := (.int (nar .byte (((c0 >>> ((0 : Int32) &&& 31))).toInt8.toInt32)))) (by rw [e1]; exact zA2.1) (State.isArrayOf_alike hZ.alike zA2.2.1) zA2.2.2 hin2 hat2 (g := (mkF m 37 #[rv ab, iv 1] [(.int 0), (.ref ab)])) rfl rfl (hb hby d8_37) t k) ?_
  show Go _ _ _ _ (T1.setTop (mkF m 38 #[rv ab, iv 1] [(.int (nar .byte (((c0 >>> ((0 : Int32) &&& 31))).toInt8.toInt32)))]))
  refine go_st (fun t k => XS.sipush X1.here hx rfl (hb hby d8_38) k) ?_
  show Go _ _ _ _ (T1.setTop (mkF m 41 #[rv ab, iv 1] [(.int 255), (.int (nar .byte (((c0 >>> ((0 : Int32) &&& 31))).toInt8.toInt32)))]))
  refine go_st (fun t k => XS.iand X1.here hx rfl (hb hby d8_41) rfl k) ?_
  show Go _ _ _ _ (T1.setTop (mkF m 42 #[rv ab, iv 1] [(.int ((nar .byte (((c0 >>> ((0 : Int32) &&& 31))).toInt8.toInt32)) &&& (255 : Int32)))]))
  obtain ⟨T3, X3, e3, st3⟩ := getS2 X1 hx hZ hown (host := "") (Or.inl (w75 hw)) Via.refl e1 (Sta.ext O0.2 HB) (g := (mkF m 42 #[rv ab, iv 1] [(.int ((nar .byte (((c0 >>> ((0 : Int32) &&& 31))).toInt8.toInt32)) &&& (255 : Int32)))])) rfl (hb hby d8_42)
  refine go_st (fun t k => st3 t k) ?_
  show Go _ _ _ _ (T3.setTop (mkF m 45 #[rv ab, iv 1] [(.int 0), (.int ((nar .byte (((c0 >>> ((0 : Int32) &&& 31))).toInt8.toInt32)) &&& (255 : Int32)))]))
  refine go_st (fun t k => XS.ishl X3.here hx rfl (hb hby d8_45) rfl k) ?_
  show Go _ _ _ _ (T3.setTop (mkF m 46 #[rv ab, iv 1] [(.int (((nar .byte (((c0 >>> ((0 : Int32) &&& 31))).toInt8.toInt32)) &&& (255 : Int32)) <<< ((0 : Int32) &&& 31)))]))
  refine go_st (fun t k => XS.aloadN X3.here hx rfl (hb hby d8_46) rfl rfl k) ?_
  show Go _ _ _ _ (T3.setTop (mkF m 47 #[rv ab, iv 1] [(.ref ab), (.int (((nar .byte (((c0 >>> ((0 : Int32) &&& 31))).toInt8.toInt32)) &&& (255 : Int32)) <<< ((0 : Int32) &&& 31)))]))
  refine go_st (fun t k => XS.iloadN X3.here hx rfl (hb hby d8_47) rfl k) ?_
  show Go _ _ _ _ (T3.setTop (mkF m 48 #[rv ab, iv 1] [(.int 1), (.ref ab), (.int (((nar .byte (((c0 >>> ((0 : Int32) &&& 31))).toInt8.toInt32)) &&& (255 : Int32)) <<< ((0 : Int32) &&& 31)))]))
  obtain ⟨zc4, zA4, zq4, zS4, zN4, zH4, zG4⟩ := id H0
  have hin4 : ¬ ((1 : Int32) < 0 ∨ zc4.slots.size ≤ ((1 : Int32)).toNatClampNeg) := inb_of zS4 ⟨by decide, by decide⟩
  have hat4 : zc4.slots[((1 : Int32)).toNatClampNeg]? = some (.int (nar .byte (((c0 >>> ((8 : Int32) &&& 31))).toInt8.toInt32))) := Has.at zH4 hin4 rfl
  refine go_st (fun t k => X3.baloadBytes hx (j := (1 : Int32)) (v := (.int (nar .byte (((c0 >>> ((8 : Int32) &&& 31))).toInt8.toInt32)))) (by rw [e3]; exact zA4.1) (State.isArrayOf_alike hZ.alike zA4.2.1) zA4.2.2 hin4 hat4 (g := (mkF m 48 #[rv ab, iv 1] [(.int 1), (.ref ab), (.int (((nar .byte (((c0 >>> ((0 : Int32) &&& 31))).toInt8.toInt32)) &&& (255 : Int32)) <<< ((0 : Int32) &&& 31)))])) rfl rfl (hb hby d8_48) t k) ?_
  show Go _ _ _ _ (T3.setTop (mkF m 49 #[rv ab, iv 1] [(.int (nar .byte (((c0 >>> ((8 : Int32) &&& 31))).toInt8.toInt32))), (.int (((nar .byte (((c0 >>> ((0 : Int32) &&& 31))).toInt8.toInt32)) &&& (255 : Int32)) <<< ((0 : Int32) &&& 31)))]))
  refine go_st (fun t k => XS.sipush X3.here hx rfl (hb hby d8_49) k) ?_
  show Go _ _ _ _ (T3.setTop (mkF m 52 #[rv ab, iv 1] [(.int 255), (.int (nar .byte (((c0 >>> ((8 : Int32) &&& 31))).toInt8.toInt32))), (.int (((nar .byte (((c0 >>> ((0 : Int32) &&& 31))).toInt8.toInt32)) &&& (255 : Int32)) <<< ((0 : Int32) &&& 31)))]))
  refine go_st (fun t k => XS.iand X3.here hx rfl (hb hby d8_52) rfl k) ?_
  show Go _ _ _ _ (T3.setTop (mkF m 53 #[rv ab, iv 1] [(.int ((nar .byte (((c0 >>> ((8 : Int32) &&& 31))).toInt8.toInt32)) &&& (255 : Int32))), (.int (((nar .byte (((c0 >>> ((0 : Int32) &&& 31))).toInt8.toInt32)) &&& (255 : Int32)) <<< ((0 : Int32) &&& 31)))]))
  obtain ⟨T5, X5, e5, st5⟩ := getS2 X3 hx hZ hown (host := "") (Or.inl (w76 hw)) Via.refl e3 (Sta.ext O0.2 LB) (g := (mkF m 53 #[rv ab, iv 1] [(.int ((nar .byte (((c0 >>> ((8 : Int32) &&& 31))).toInt8.toInt32)) &&& (255 : Int32))), (.int (((nar .byte (((c0 >>> ((0 : Int32) &&& 31))).toInt8.toInt32)) &&& (255 : Int32)) <<< ((0 : Int32) &&& 31)))])) rfl (hb hby d8_53)
  refine go_st (fun t k => st5 t k) ?_
  show Go _ _ _ _ (T5.setTop (mkF m 56 #[rv ab, iv 1] [(.int 8), (.int ((nar .byte (((c0 >>> ((8 : Int32) &&& 31))).toInt8.toInt32)) &&& (255 : Int32))), (.int (((nar .byte (((c0 >>> ((0 : Int32) &&& 31))).toInt8.toInt32)) &&& (255 : Int32)) <<< ((0 : Int32) &&& 31)))]))
  refine go_st (fun t k => XS.ishl X5.here hx rfl (hb hby d8_56) rfl k) ?_
  show Go _ _ _ _ (T5.setTop (mkF m 57 #[rv ab, iv 1] [(.int (((nar .byte (((c0 >>> ((8 : Int32) &&& 31))).toInt8.toInt32)) &&& (255 : Int32)) <<< ((8 : Int32) &&& 31))), (.int (((nar .byte (((c0 >>> ((0 : Int32) &&& 31))).toInt8.toInt32)) &&& (255 : Int32)) <<< ((0 : Int32) &&& 31)))]))
  refine go_st (fun t k => XS.ior X5.here hx rfl (hb hby d8_57) rfl k) ?_
  show Go _ _ _ _ (T5.setTop (mkF m 58 #[rv ab, iv 1] [(.int ((((nar .byte (((c0 >>> ((0 : Int32) &&& 31))).toInt8.toInt32)) &&& (255 : Int32)) <<< ((0 : Int32) &&& 31)) ||| (((nar .byte (((c0 >>> ((8 : Int32) &&& 31))).toInt8.toInt32)) &&& (255 : Int32)) <<< ((8 : Int32) &&& 31))))]))
  refine go_st (fun t k => XS.i2c X5.here hx rfl (hb hby d8_58) rfl k) ?_
  show Go _ _ _ _ (T5.setTop (mkF m 59 #[rv ab, iv 1] [(.int ((((((nar .byte (((c0 >>> ((0 : Int32) &&& 31))).toInt8.toInt32)) &&& (255 : Int32)) <<< ((0 : Int32) &&& 31)) ||| (((nar .byte (((c0 >>> ((8 : Int32) &&& 31))).toInt8.toInt32)) &&& (255 : Int32)) <<< ((8 : Int32) &&& 31)))).toUInt32.toUInt16.toUInt32.toInt32))]))
  obtain ⟨fs, hr, hrun, hended, hW, hsame⟩ := X5.leave (v := some (.int (nar .char ((((((nar .byte (((c0 >>> ((0 : Int32) &&& 31))).toInt8.toInt32)) &&& (255 : Int32)) <<< ((0 : Int32) &&& 31)) ||| (((nar .byte (((c0 >>> ((8 : Int32) &&& 31))).toInt8.toInt32)) &&& (255 : Int32)) <<< ((8 : Int32) &&& 31)))).toUInt32.toUInt16.toUInt32.toInt32)))) (fun h => by rw [Bd.returns] at h; cases h)
  refine ⟨_, _, ?_, hrun, hended, _, _, rfl, ?_, ⟨_, rfl⟩, hW, hsame.mono (by decide) (by decide)⟩
  · exact retN X5 hx (t := .char) Bd.returns (by simp) (hb hby d8_59) hr
  · show Q_getc10 _ _ _ _ _ _ _ T5.heap _
    rw [e5]
    exact ⟨((((((nar .byte (((c0 >>> ((0 : Int32) &&& 31))).toInt8.toInt32)) &&& (255 : Int32)) <<< ((0 : Int32) &&& 31)) ||| (((nar .byte (((c0 >>> ((8 : Int32) &&& 31))).toInt8.toInt32)) &&& (255 : Int32)) <<< ((8 : Int32) &&& 31)))).toUInt32.toUInt16.toUInt32.toInt32), rfl, N0, rfl, (by rw [nar_c2]; exact ch_back r0.1 r0.2 hg)⟩
def Q_cmp_1 (Z : State) (ac : Addr) (kc : ClassId) (c0 : Int32) (h0 : Heap) (n0 : Nat) (vR : Option Value) (h : Heap) (L : List Loc) : Prop := ∃ (t : Addr) (kb : ClassId) (N : Int32) (vs : List Value), vR = some (.ref t) ∧ Fr n0 L ∧ Keep h0 h [] ∧ n0 ≤ t ∧ h0.size ≤ t ∧ (Arv Z h t kb .byte N vs (.int (0 : Int32))) ∧ (¬ N = (0 : Int32))
theorem ef_cmp_1 (m : MethodId) (x0 : Addr) (x1 : Int32) (x2 : Int32) : entryFrame m #[(.ref x0), (.int x1), (.int x2)] 6 = mkF m 0 #[.val (.ref x0), .val (.int x1), .val (.int x2), .unset, .unset, .unset] [] := by first | (simp [entryFrame, mkF, argsToLocals, Value.category]; done) | rfl
set_option maxRecDepth 65536 in
set_option maxHeartbeats 40000000 in
theorem rm_cmp_1 (l : Launch) (Z : State) (a0 : Array Value) (hw : ∀ d ∈ tables_1, d.before a0 Z = true) (ws : List Jvm.Cond) (ac : Addr) (kc : ClassId) (c0 : Int32) (h0 : Heap) (n0 : Nat) (Z0 : n0 ≤ h0.size) (H0 : Arv Z h0 ac kc .char (1 : Int32) [(.int c0)] (.int (0 : Int32))) (AD : Sta Z Z.heap "java/lang/StringUTF16" "$assertionsDisabled" "Z" (.int (1 : Int32))) (HB : Sta Z Z.heap "java/lang/StringUTF16" "HI_BYTE_SHIFT" "I" (.int (0 : Int32))) (LB : Sta Z Z.heap "java/lang/StringUTF16" "LO_BYTE_SHIFT" "I" (.int (8 : Int32))) (rg0 : 0 ≤ c0.toInt ∧ c0.toInt ≤ 65535) (O0 : Old Z n0 h0) :
    MetFree l (⟨"java/lang/StringUTF16", "compress", "([CII)[B"⟩ : MethodName) (head1 (Jvm.Cond.code (⟨"java/lang/StringUTF16", "compress", "([CII)[B"⟩ : MethodName) jdk_52_method_16_code 6 (some (.array .byte)) :: ws) ({ frames := 3, cells := 2, slots := 3, locals := 40 } : Room)) (fun a U => a = #[(.ref ac), (.int 0), (.int 1)] ∧ Z.Warmed39 U.vm ∧ U.heap = h0) (fun _ _ _ _ _ => True) (fun _ U o U' => ∃ v L, o = .returned v ∧ Q_cmp_1 Z ac kc c0 h0 n0 v U'.heap L ∧ FrameEnd U o U' L ({ frames := 3, cells := 2, slots := 3, locals := 40 } : Room).cells ({ frames := 3, cells := 2, slots := 3, locals := 40 } : Room).slots) := by
  refine MetFree.of_bodySF (plainFor_of_name pn_java_lang_StringUTF16) hisR ?_
  intro p e s m args below meth c s₁ Bd hml0 hP hK
  obtain ⟨rfl, hZ, hh⟩ := hP
  have hx := Bd.exec
  have hby := Bd.bytes
  have hml : c.maxLocals = 6 := hml0
  have hown : s.vm.findClass "java/lang/StringUTF16" = some m.cls := findClass_of_methodNamed Bd.named
  have hnm := (name_of_methodNamed Bd.named Bd.method).1
  have X0 : Stand p l e ({ frames := 3, cells := 2, slots := 3, locals := 40 } : Room) s m #[(.ref ac), (.int 0), (.int 1)] below meth c s₁ [] 0 0 := Stand.of_body Bd
  have e0 : s₁.heap = h0 := by rw [← hh, Bd.state]; rfl
  have N0 := Fr.nil n0
  refine go_st (fun t k => castTop (ef_cmp_1 m ac (0 : Int32) (1 : Int32)) k) ?_
  show Go _ _ _ _ (s₁.setTop (mkF m 0 #[rv ac, iv 0, iv 1, .unset, .unset, .unset] []))
  refine go_st (fun t k => XS.iloadN X0.here hx rfl (hb hby d9_0) rfl k) ?_
  show Go _ _ _ _ (s₁.setTop (mkF m 1 #[rv ac, iv 0, iv 1, .unset, .unset, .unset] [(.int 1)]))
  obtain ⟨T1, h1, kc1, X1, e1, E1, A1, st1⟩ := newP X0 hx hZ (aty := .byte) (w24 hw) e0 (g := (mkF m 1 #[rv ac, iv 0, iv 1, .unset, .unset, .unset] [(.int 1)])) rfl (hb hby d9_1) rfl (by decide) (cap := 1) (by decide) (by decide) (by decide) (by decide)
  obtain ⟨b1, gq1⟩ : ∃ z, z = h0.size := ⟨_, rfl⟩
  rw [← gq1] at A1 st1
  have f2 : Arv Z h1 b1 kc1 .byte (1 : Int32) [(.int 0)] (.int 0) := (Arv.new A1 (by decide)).pad (pad_rep [] (.int 0) 1)
  refine go_st (fun t k => st1 t k) ?_
  show Go _ _ _ _ (T1.setTop (mkF m 3 #[rv ac, iv 0, iv 1, .unset, .unset, .unset] [(.ref b1)]))
  refine go_st (fun t k => XS.astoreN X1.here hx rfl (hb hby d9_3) rfl rfl (l' := #[rv ac, iv 0, iv 1, rv b1, .unset, .unset]) rfl k) ?_
  show Go _ _ _ _ (T1.setTop (mkF m 4 #[rv ac, iv 0, iv 1, rv b1, .unset, .unset] []))
  refine go_st (fun t k => XS.aloadN X1.here hx rfl (hb hby d9_4) rfl rfl k) ?_
  show Go _ _ _ _ (T1.setTop (mkF m 5 #[rv ac, iv 0, iv 1, rv b1, .unset, .unset] [(.ref ac)]))
  refine go_st (fun t k => XS.iloadN X1.here hx rfl (hb hby d9_5) rfl k) ?_
  show Go _ _ _ _ (T1.setTop (mkF m 6 #[rv ac, iv 0, iv 1, rv b1, .unset, .unset] [(.int 0), (.ref ac)]))
  refine go_st (fun t k => XS.aloadN X1.here hx rfl (hb hby d9_6) rfl rfl k) ?_
  show Go _ _ _ _ (T1.setTop (mkF m 7 #[rv ac, iv 0, iv 1, rv b1, .unset, .unset] [(.ref b1), (.int 0), (.ref ac)]))
  refine go_st (fun t k => XS.iconst X1.here hx rfl (hb hby d9_7) k) ?_
  show Go _ _ _ _ (T1.setTop (mkF m 8 #[rv ac, iv 0, iv 1, rv b1, .unset, .unset] [(.int 0), (.ref b1), (.int 0), (.ref ac)]))
  refine go_st (fun t k => XS.iloadN X1.here hx rfl (hb hby d9_8) rfl k) ?_
  show Go _ _ _ _ (T1.setTop (mkF m 9 #[rv ac, iv 0, iv 1, rv b1, .unset, .unset] [(.int 1), (.int 0), (.ref b1), (.int 0), (.ref ac)]))
  have f3 : Arv Z h1 ac kc .char (1 : Int32) [(.int c0)] (.int (0 : Int32)) := (H0.ext E1)
  have g_b1 : n0 ≤ b1 := Nat.le_trans (Nat.le_trans Z0 (Nat.le_refl _)) (Nat.le_of_eq gq1.symm)
  have nq4 : ac ≠ b1 := Nat.ne_of_lt (Nat.lt_of_lt_of_le (Nat.lt_of_lt_of_le H0.lt (Nat.le_refl _)) (Nat.le_of_eq gq1.symm))
  obtain ⟨_, _, ⟨T5, L5, kk5, nn5⟩, -, X5, ⟨Lc5, hQ5, lq5, yq5, zq5⟩, st5⟩ := Jvm.LawKit.callS X1 hx (y := (⟨"java/lang/StringUTF16", "compress", "([CI[BII)I"⟩ : MethodName)) hown (mvT hZ (w25 hw)) (mvT hZ (w26 hw)) (mvT hZ (w22 hw)) (mvT hZ (w27 hw)) (by decide) (backOf (W := 0) (rm_cmp0_1 l Z a0 hw [] ac kc b1 kc1 c0 (0 : Int32) h1 n0 (Nat.le_trans Z0 E1.1) f3 f2 g_b1 nq4) hZ (w27 hw) (w22 hw) (by decide) (by decide)) (g := (mkF m 9 #[rv ac, iv 0, iv 1, rv b1, .unset, .unset] [(.int 1), (.int 0), (.ref b1), (.int 0), (.ref ac)])) rfl (by rw [hml]; rfl) (argsL := [(.ref ac), (.int 0), (.ref b1), (.int 0), (.int 1)]) (rest := []) (lenOf pd_4 rfl) rfl (by show 2 * 0 + _ ≤ _; exact Nat.le_of_eq rfl) (hb hby d9_9) (fun _ _ => ⟨rfl, e1, (by decide : 1 + 0 ≤ _), (by decide : 1 + 0 ≤ _)⟩)
  dsimp only [Pt.U, Pt.locs, Pt.cells, Pt.slots] at X5 lq5 yq5 zq5 st5 hQ5
  subst lq5 yq5 zq5
  obtain ⟨h5, e5⟩ : ∃ z, T5.heap = z := ⟨_, rfl⟩
  rw [e5] at hQ5
  obtain ⟨r_5, vs_5, rfl, N5q, K5, hr_5, p5_1⟩ := hQ5
  have N5 := Fr.app N0 N5q
  refine go_st st5 ?_
  show Go _ _ _ _ (T5.setTop (mkF m 12 #[rv ac, iv 0, iv 1, rv b1, .unset, .unset] [(.int r_5)]))
  rcases hr_5 with rfl | ⟨rfl, hg6⟩
  · skip
    show Go _ _ _ _ (T5.setTop (mkF m 12 #[rv ac, iv 0, iv 1, rv b1, .unset, .unset] [(.int 1)]))
    refine go_st (fun t k => XS.istore X5.here hx rfl (hb hby d9_12) rfl (l' := #[rv ac, iv 0, iv 1, rv b1, iv 1, .unset]) rfl k) ?_
    show Go _ _ _ _ (T5.setTop (mkF m 14 #[rv ac, iv 0, iv 1, rv b1, iv 1, .unset] []))
    refine go_st (fun t k => XS.iload X5.here hx rfl (hb hby d9_14) rfl k) ?_
    show Go _ _ _ _ (T5.setTop (mkF m 16 #[rv ac, iv 0, iv 1, rv b1, iv 1, .unset] [(.int 1)]))
    refine go_st (fun t k => XS.iloadN X5.here hx rfl (hb hby d9_16) rfl k) ?_
    show Go _ _ _ _ (T5.setTop (mkF m 17 #[rv ac, iv 0, iv 1, rv b1, iv 1, .unset] [(.int 1), (.int 1)]))
    refine go_st (fun t k => XS.icmpYes X5.here hx rfl (pc0 := 17) (pc' := 57) rfl (hb hby d9_17) rfl (teq ((by decide) : (1 : Int32) = (1 : Int32))).1 (by decide) (by decide) k) ?_
    show Go _ _ _ _ (T5.setTop (mkF m 57 #[rv ac, iv 0, iv 1, rv b1, iv 1, .unset] []))
    refine go_st (fun t k => XS.aloadN X5.here hx rfl (hb hby d9_57) rfl rfl k) ?_
    show Go _ _ _ _ (T5.setTop (mkF m 58 #[rv ac, iv 0, iv 1, rv b1, iv 1, .unset] [(.ref b1)]))
    have ke7 : Keep h0 h1 [] := (Keep.ext (Keep.refl h0 []) E1)
    have ke8 : Keep h0 h5 [] := (Keep.trans ke7 K5 (allS (Or.inr (Nat.le_of_eq gq1.symm)) all0))
    obtain ⟨fs, hr, hrun, hended, hW, hsame⟩ := X5.leave (v := some (.ref b1)) (fun h => by rw [Bd.returns] at h; cases h)
    refine ⟨_, _, ?_, hrun, hended, _, _, rfl, ?_, ⟨_, rfl⟩, hW, hsame.mono (by decide) (by decide)⟩
    · exact retOut X5 hx Bd.returns rfl (Or.inr (Or.inr (Or.inr (Or.inr ⟨rfl, rfl, rfl⟩)))) (hb hby d9_58) hr
    · show Q_cmp_1 _ _ _ _ _ _ _ T5.heap _
      rw [e5]
      exact ⟨b1, kc1, (1 : Int32), vs_5, rfl, N5, ke8, g_b1, (Nat.le_of_eq gq1.symm), p5_1, (by decide)⟩
  · skip
    show Go _ _ _ _ (T5.setTop (mkF m 12 #[rv ac, iv 0, iv 1, rv b1, .unset, .unset] [(.int 0)]))
    refine go_st (fun t k => XS.istore X5.here hx rfl (hb hby d9_12) rfl (l' := #[rv ac, iv 0, iv 1, rv b1, iv 0, .unset]) rfl k) ?_
    show Go _ _ _ _ (T5.setTop (mkF m 14 #[rv ac, iv 0, iv 1, rv b1, iv 0, .unset] []))
    refine go_st (fun t k => XS.iload X5.here hx rfl (hb hby d9_14) rfl k) ?_
    show Go _ _ _ _ (T5.setTop (mkF m 16 #[rv ac, iv 0, iv 1, rv b1, iv 0, .unset] [(.int 0)]))
    refine go_st (fun t k => XS.iloadN X5.here hx rfl (hb hby d9_16) rfl k) ?_
    show Go _ _ _ _ (T5.setTop (mkF m 17 #[rv ac, iv 0, iv 1, rv b1, iv 0, .unset] [(.int 1), (.int 0)]))
    refine go_st (fun t k => XS.icmpNo X5.here hx rfl (hb hby d9_17) rfl (feq ((by decide) : ¬ ((0 : Int32) = (1 : Int32)))).1 k) ?_
    show Go _ _ _ _ (T5.setTop (mkF m 20 #[rv ac, iv 0, iv 1, rv b1, iv 0, .unset] []))
    refine go_st (fun t k => XS.aloadN X5.here hx rfl (hb hby d9_20) rfl rfl k) ?_
    show Go _ _ _ _ (T5.setTop (mkF m 21 #[rv ac, iv 0, iv 1, rv b1, iv 0, .unset] [(.ref ac)]))
    refine go_st (fun t k => XS.iloadN X5.here hx rfl (hb hby d9_21) rfl k) ?_
    show Go _ _ _ _ (T5.setTop (mkF m 22 #[rv ac, iv 0, iv 1, rv b1, iv 0, .unset] [(.int 0), (.ref ac)]))
    refine go_st (fun t k => XS.iloadN X5.here hx rfl (hb hby d9_22) rfl k) ?_
    show Go _ _ _ _ (T5.setTop (mkF m 23 #[rv ac, iv 0, iv 1, rv b1, iv 0, .unset] [(.int 1), (.int 0), (.ref ac)]))
    have f9 : Arv Z h5 ac kc .char (1 : Int32) [(.int c0)] (.int (0 : Int32)) := (f3.keep K5 (ninS nq4 nin0))
    have oe10 : Old Z n0 h1 := (Old.ext O0 E1)
    have oe11 : Old Z n0 h5 := (Old.keep oe10 K5 (allS g_b1 all0))
    have sz12 : h0.size ≤ h5.size := (Nat.le_trans E1.1 K5.1)
    obtain ⟨_, _, ⟨T13, L13, kk13, nn13⟩, -, X13, ⟨Lc13, hQ13, lq13, yq13, zq13⟩, st13⟩ := Jvm.LawKit.callS X5 hx (y := (⟨"java/lang/StringUTF16", "toBytes", "([CII)[B"⟩ : MethodName)) hown (mvT hZ (w61 hw)) (mvT hZ (w62 hw)) (mvT hZ (w22 hw)) (mvT hZ (w63 hw)) (by decide) (backOf (W := 0) (rm_tob1 l Z a0 hw [] ac kc c0 h5 n0 (Nat.le_trans Z0 sz12) f9 AD HB LB oe11) hZ (w63 hw) (w22 hw) (by decide) (by decide)) (g := (mkF m 23 #[rv ac, iv 0, iv 1, rv b1, iv 0, .unset] [(.int 1), (.int 0), (.ref ac)])) rfl (by rw [hml]; rfl) (argsL := [(.ref ac), (.int 0), (.int 1)]) (rest := []) (lenOf pd_5 rfl) rfl (by show 2 * 0 + _ ≤ _; exact Nat.le_of_eq rfl) (hb hby d9_23) (fun _ _ => ⟨rfl, e5, (by decide : 1 + 1 ≤ _), (by decide : 1 + 2 ≤ _)⟩)
    dsimp only [Pt.U, Pt.locs, Pt.cells, Pt.slots] at X13 lq13 yq13 zq13 st13 hQ13
    subst lq13 yq13 zq13
    obtain ⟨h13, e13⟩ : ∃ z, T13.heap = z := ⟨_, rfl⟩
    rw [e13] at hQ13
    obtain ⟨t_13, kb_13, rfl, N13q, K13, gf13_0, lf13_0, p13_1⟩ := hQ13
    have N13 := Fr.app N5 N13q
    refine go_st st13 ?_
    show Go _ _ _ _ (T13.setTop (mkF m 26 #[rv ac, iv 0, iv 1, rv b1, iv 0, .unset] [(.ref t_13)]))
    refine go_st (fun t k => XS.astore X13.here hx rfl (hb hby d9_26) rfl rfl (l' := #[rv ac, iv 0, iv 1, rv b1, iv 0, rv t_13]) rfl k) ?_
    show Go _ _ _ _ (T13.setTop (mkF m 28 #[rv ac, iv 0, iv 1, rv b1, iv 0, rv t_13] []))
    refine go_st (fun t k => XS.aload X13.here hx rfl (hb hby d9_28) rfl rfl k) ?_
    show Go _ _ _ _ (T13.setTop (mkF m 30 #[rv ac, iv 0, iv 1, rv b1, iv 0, rv t_13] [(.ref t_13)]))
    refine go_st (fun t k => XS.iload X13.here hx rfl (hb hby d9_30) rfl k) ?_
    show Go _ _ _ _ (T13.setTop (mkF m 32 #[rv ac, iv 0, iv 1, rv b1, iv 0, rv t_13] [(.int 0), (.ref t_13)]))
    have oe14 : Old Z n0 h13 := (Old.keep oe11 K13 all0)
    have sz15 : h0.size ≤ h13.size := (Nat.le_trans sz12 K13.1)
    obtain ⟨_, _, ⟨T16, L16, kk16, nn16⟩, -, X16, ⟨Lc16, hQ16, lq16, yq16, zq16⟩, st16⟩ := Jvm.LawKit.callS X13 hx (y := (⟨"java/lang/StringUTF16", "getChar", "([BI)C"⟩ : MethodName)) hown (mvT hZ (w77 hw)) (mvT hZ (w78 hw)) (mvT hZ (w22 hw)) (mvT hZ (w79 hw)) (by decide) (backOf (W := 0) (rm_getc10 l Z a0 hw [] t_13 kb_13 c0 h13 n0 (Nat.le_trans Z0 sz15) p13_1 AD HB LB rg0 hg6 oe14) hZ (w79 hw) (w22 hw) (by decide) (by decide)) (g := (mkF m 32 #[rv ac, iv 0, iv 1, rv b1, iv 0, rv t_13] [(.int 0), (.ref t_13)])) rfl (by rw [hml]; rfl) (argsL := [(.ref t_13), (.int 0)]) (rest := []) (lenOf pd_6 rfl) rfl (by show 2 * 0 + _ ≤ _; exact Nat.le_of_eq rfl) (hb hby d9_32) (fun _ _ => ⟨rfl, e13, (by decide : 2 + 0 ≤ _), (by decide : 3 + 0 ≤ _)⟩)
    dsimp only [Pt.U, Pt.locs, Pt.cells, Pt.slots] at X16 lq16 yq16 zq16 st16 hQ16
    subst lq16 yq16 zq16
    obtain ⟨h16, e16⟩ : ∃ z, T16.heap = z := ⟨_, rfl⟩
    rw [e16] at hQ16
    obtain ⟨r_16, rfl, N16q, he16, hr_16⟩ := hQ16
    have N16 := Fr.app N13 N16q
    rw [he16] at e16
    refine go_st st16 ?_
    show Go _ _ _ _ (T16.setTop (mkF m 35 #[rv ac, iv 0, iv 1, rv b1, iv 0, rv t_13] [(.int (nar .char r_16))]))
    refine go_st (fun t k => XS.sipush X16.here hx rfl (hb hby d9_35) k) ?_
    show Go _ _ _ _ (T16.setTop (mkF m 38 #[rv ac, iv 0, iv 1, rv b1, iv 0, rv t_13] [(.int 255), (.int (nar .char r_16))]))
    refine go_st (fun t k => XS.icmpYes X16.here hx rfl (pc0 := 38) (pc' := 54) rfl (hb hby d9_38) rfl (tlt (hr_16 : (255 : Int32) < (nar .char r_16))).2.2.1 (by decide) (by decide) k) ?_
    show Go _ _ _ _ (T16.setTop (mkF m 54 #[rv ac, iv 0, iv 1, rv b1, iv 0, rv t_13] []))
    refine go_st (fun t k => XS.aload X16.here hx rfl (hb hby d9_54) rfl rfl k) ?_
    show Go _ _ _ _ (T16.setTop (mkF m 56 #[rv ac, iv 0, iv 1, rv b1, iv 0, rv t_13] [(.ref t_13)]))
    have ke17 : Keep h0 h1 [] := (Keep.ext (Keep.refl h0 []) E1)
    have ke18 : Keep h0 h5 [] := (Keep.trans ke17 K5 (allS (Or.inr (Nat.le_of_eq gq1.symm)) all0))
    have ke19 : Keep h0 h13 [] := (Keep.trans ke18 K13 all0)
    obtain ⟨fs, hr, hrun, hended, hW, hsame⟩ := X16.leave (v := some (.ref t_13)) (fun h => by rw [Bd.returns] at h; cases h)
    refine ⟨_, _, ?_, hrun, hended, _, _, rfl, ?_, ⟨_, rfl⟩, hW, hsame.mono (by decide) (by decide)⟩
    · exact retOut X16 hx Bd.returns rfl (Or.inr (Or.inr (Or.inr (Or.inr ⟨rfl, rfl, rfl⟩)))) (hb hby d9_56) hr
    · show Q_cmp_1 _ _ _ _ _ _ _ T16.heap _
      rw [e16]
      exact ⟨t_13, kb_13, (2 : Int32), [(.int (nar .byte (((c0 >>> ((0 : Int32) &&& 31))).toInt8.toInt32))), (.int (nar .byte (((c0 >>> ((8 : Int32) &&& 31))).toInt8.toInt32)))], rfl, N16, ke19, gf13_0, (Nat.le_trans sz12 lf13_0), p13_1, (by decide)⟩
def Q_s4_1 (Z : State) (a1 : Addr) (ac : Addr) (kc : ClassId) (c0 : Int32) (G1 : Int32) (h0 : Heap) (n0 : Nat) (vR : Option Value) (h : Heap) (L : List Loc) : Prop := ∃ (t : Addr) (kb : ClassId) (N : Int32) (vs : List Value), vR = none ∧ Fr n0 L ∧ Keep h0 h [a1] ∧ n0 ≤ t ∧ h0.size ≤ t ∧ (Exa Z h a1 "java/lang/String") ∧ (Fld Z h a1 "java/lang/String" "value" "[B" (.ref t)) ∧ (Arv Z h t kb .byte N vs (.int (0 : Int32))) ∧ (¬ N = (0 : Int32))
theorem ef_s4_1 (m : MethodId) (x0 : Addr) (x1 : Addr) (x2 : Int32) (x3 : Int32) : entryFrame m #[(.ref x0), (.ref x1), (.int x2), (.int x3), .null] 6 = mkF m 0 #[.val (.ref x0), .val (.ref x1), .val (.int x2), .val (.int x3), .val .null, .unset] [] := by first | (simp [entryFrame, mkF, argsToLocals, Value.category]; done) | rfl
set_option maxRecDepth 65536 in
set_option maxHeartbeats 40000000 in
theorem rm_s4_1 (l : Launch) (Z : State) (a0 : Array Value) (hw : ∀ d ∈ tables_1, d.before a0 Z = true) (ws : List Jvm.Cond) (a1 : Addr) (ac : Addr) (kc : ClassId) (c0 : Int32) (G1 : Int32) (h0 : Heap) (n0 : Nat) (Z0 : n0 ≤ h0.size) (H0 : Exa Z h0 a1 "java/lang/String") (H1 : Fld Z h0 a1 "java/lang/String" "value" "[B" .null) (H2 : Fld Z h0 a1 "java/lang/String" "coder" "B" (.int 0)) (H3 : Arv Z h0 ac kc .char (1 : Int32) [(.int c0)] (.int (0 : Int32))) (g_a1 : n0 ≤ a1) (ne_a1_ac : a1 ≠ ac) (AD : Sta Z Z.heap "java/lang/StringUTF16" "$assertionsDisabled" "Z" (.int (1 : Int32))) (HB : Sta Z Z.heap "java/lang/StringUTF16" "HI_BYTE_SHIFT" "I" (.int (0 : Int32))) (LB : Sta Z Z.heap "java/lang/StringUTF16" "LO_BYTE_SHIFT" "I" (.int (8 : Int32))) (CS : Sta Z Z.heap "java/lang/String" "COMPACT_STRINGS" "Z" (.int G1)) (CSn : ¬ (G1 = (0 : Int32))) (rg0 : 0 ≤ c0.toInt ∧ c0.toInt ≤ 65535) (O0 : Old Z n0 h0) :
    MetFree l (⟨"java/lang/String", "<init>", "([CIILjava/lang/Void;)V"⟩ : MethodName) (head1 (Jvm.Cond.code (⟨"java/lang/String", "<init>", "([CIILjava/lang/Void;)V"⟩ : MethodName) jdk_42_method_149_code 6 none :: ws) ({ frames := 4, cells := 2, slots := 3, locals := 57 } : Room)) (fun a U => a = #[(.ref a1), (.ref ac), (.int 0), (.int 1), .null] ∧ Z.Warmed39 U.vm ∧ U.heap = h0) (fun _ _ _ _ _ => True) (fun _ U o U' => ∃ v L, o = .returned v ∧ Q_s4_1 Z a1 ac kc c0 G1 h0 n0 v U'.heap L ∧ FrameEnd U o U' L ({ frames := 4, cells := 2, slots := 3, locals := 57 } : Room).cells ({ frames := 4, cells := 2, slots := 3, locals := 57 } : Room).slots) := by
  refine MetFree.of_bodySF (plainFor_of_name pn_java_lang_String) hisR ?_
  intro p e s m args below meth c s₁ Bd hml0 hP hK
  obtain ⟨rfl, hZ, hh⟩ := hP
  have hx := Bd.exec
  have hby := Bd.bytes
  have hml : c.maxLocals = 6 := hml0
  have hown : s.vm.findClass "java/lang/String" = some m.cls := findClass_of_methodNamed Bd.named
  have hnm := (name_of_methodNamed Bd.named Bd.method).1
  have X0 : Stand p l e ({ frames := 4, cells := 2, slots := 3, locals := 57 } : Room) s m #[(.ref a1), (.ref ac), (.int 0), (.int 1), .null] below meth c s₁ [] 0 0 := Stand.of_body Bd
  have e0 : s₁.heap = h0 := by rw [← hh, Bd.state]; rfl
  have N0 := Fr.nil n0
  refine go_st (fun t k => castTop (ef_s4_1 m a1 ac (0 : Int32) (1 : Int32)) k) ?_
  show Go _ _ _ _ (s₁.setTop (mkF m 0 #[rv a1, rv ac, iv 0, iv 1, .val .null, .unset] []))
  refine go_st (fun t k => XS.aloadN X0.here hx rfl (hb hby d0_0) rfl rfl k) ?_
  show Go _ _ _ _ (s₁.setTop (mkF m 1 #[rv a1, rv ac, iv 0, iv 1, .val .null, .unset] [(.ref a1)]))
  obtain ⟨T1, X1, e1, st1⟩ := initO X0 hx hZ hown (w16 hw) (w17 hw) (w18 hw) e0 (g := (mkF m 1 #[rv a1, rv ac, iv 0, iv 1, .val .null, .unset] [(.ref a1)])) rfl (by rw [hml]; rfl) rfl (hb hby d0_1) (by decide) (W := 0) (by show 2 * 0 + _ ≤ _; exact Nat.le_of_eq rfl) (by decide)
  refine go_st (fun t k => st1 t k) ?_
  show Go _ _ _ _ (T1.setTop (mkF m 4 #[rv a1, rv ac, iv 0, iv 1, .val .null, .unset] []))
  refine go_st (fun t k => XS.iloadN X1.here hx rfl (hb hby d0_4) rfl k) ?_
  show Go _ _ _ _ (T1.setTop (mkF m 5 #[rv a1, rv ac, iv 0, iv 1, .val .null, .unset] [(.int 1)]))
  refine go_st (fun t k => XS.ifYes X1.here hx rfl (pc0 := 5) (pc' := 27) rfl (hb hby d0_5) rfl ((if0 _ _).trans (feq ((by decide) : ¬ ((1 : Int32) = (0 : Int32)))).2) (by decide) (by decide) k) ?_
  show Go _ _ _ _ (T1.setTop (mkF m 27 #[rv a1, rv ac, iv 0, iv 1, .val .null, .unset] []))
  obtain ⟨T2, X2, e2, st2⟩ := getS2 X1 hx hZ hown (host := "") (Or.inl (w19 hw)) Via.refl e1 (Sta.ext O0.2 CS) (g := (mkF m 27 #[rv a1, rv ac, iv 0, iv 1, .val .null, .unset] [])) rfl (hb hby d0_27)
  refine go_st (fun t k => st2 t k) ?_
  show Go _ _ _ _ (T2.setTop (mkF m 30 #[rv a1, rv ac, iv 0, iv 1, .val .null, .unset] [(.int G1)]))
  refine go_st (fun t k => XS.ifNo X2.here hx rfl (hb hby d0_30) rfl ((if0 _ _).trans (feq (CSn : ¬ (G1 = (0 : Int32)))).1) k) ?_
  show Go _ _ _ _ (T2.setTop (mkF m 33 #[rv a1, rv ac, iv 0, iv 1, .val .null, .unset] []))
  refine go_st (fun t k => XS.aloadN X2.here hx rfl (hb hby d0_33) rfl rfl k) ?_
  show Go _ _ _ _ (T2.setTop (mkF m 34 #[rv a1, rv ac, iv 0, iv 1, .val .null, .unset] [(.ref ac)]))
  refine go_st (fun t k => XS.iloadN X2.here hx rfl (hb hby d0_34) rfl k) ?_
  show Go _ _ _ _ (T2.setTop (mkF m 35 #[rv a1, rv ac, iv 0, iv 1, .val .null, .unset] [(.int 0), (.ref ac)]))
  refine go_st (fun t k => XS.iloadN X2.here hx rfl (hb hby d0_35) rfl k) ?_
  show Go _ _ _ _ (T2.setTop (mkF m 36 #[rv a1, rv ac, iv 0, iv 1, .val .null, .unset] [(.int 1), (.int 0), (.ref ac)]))
  obtain ⟨_, _, ⟨T3, L3, kk3, nn3⟩, -, X3, ⟨Lc3, hQ3, lq3, yq3, zq3⟩, st3⟩ := Jvm.LawKit.callS X2 hx (y := (⟨"java/lang/StringUTF16", "compress", "([CII)[B"⟩ : MethodName)) hown (mvT hZ (w20 hw)) (mvT hZ (w21 hw)) (mvT hZ (w22 hw)) (mvT hZ (w23 hw)) (by decide) (backOf (W := 0) (rm_cmp_1 l Z a0 hw [] ac kc c0 h0 n0 (Nat.le_trans Z0 (Nat.le_refl _)) H3 AD HB LB rg0 O0) hZ (w23 hw) (w22 hw) (by decide) (by decide)) (g := (mkF m 36 #[rv a1, rv ac, iv 0, iv 1, .val .null, .unset] [(.int 1), (.int 0), (.ref ac)])) rfl (by rw [hml]; rfl) (argsL := [(.ref ac), (.int 0), (.int 1)]) (rest := []) (lenOf pd_5 rfl) rfl (by show 2 * 0 + _ ≤ _; exact Nat.le_of_eq rfl) (hb hby d0_36) (fun _ _ => ⟨rfl, e2, (by decide : 0 + 2 ≤ _), (by decide : 0 + 3 ≤ _)⟩)
  dsimp only [Pt.U, Pt.locs, Pt.cells, Pt.slots] at X3 lq3 yq3 zq3 st3 hQ3
  subst lq3 yq3 zq3
  obtain ⟨h3, e3⟩ : ∃ z, T3.heap = z := ⟨_, rfl⟩
  rw [e3] at hQ3
  obtain ⟨t_3, kb_3, N_3, vs_3, rfl, N3q, K3, gf3_0, lf3_0, p3_1, hN_3⟩ := hQ3
  have N3 := Fr.app N0 N3q
  refine go_st st3 ?_
  show Go _ _ _ _ (T3.setTop (mkF m 39 #[rv a1, rv ac, iv 0, iv 1, .val .null, .unset] [(.ref t_3)]))
  refine go_st (fun t k => XS.astore X3.here hx rfl (hb hby d0_39) rfl rfl (l' := #[rv a1, rv ac, iv 0, iv 1, .val .null, rv t_3]) rfl k) ?_
  show Go _ _ _ _ (T3.setTop (mkF m 41 #[rv a1, rv ac, iv 0, iv 1, .val .null, rv t_3] []))
  refine go_st (fun t k => XS.aloadN X3.here hx rfl (hb hby d0_41) rfl rfl k) ?_
  show Go _ _ _ _ (T3.setTop (mkF m 42 #[rv a1, rv ac, iv 0, iv 1, .val .null, rv t_3] [(.ref a1)]))
  refine go_st (fun t k => XS.aload X3.here hx rfl (hb hby d0_42) rfl rfl k) ?_
  show Go _ _ _ _ (T3.setTop (mkF m 44 #[rv a1, rv ac, iv 0, iv 1, .val .null, rv t_3] [(.ref t_3), (.ref a1)]))
  refine go_st (fun t k => XS.iloadN X3.here hx rfl (hb hby d0_44) rfl k) ?_
  show Go _ _ _ _ (T3.setTop (mkF m 45 #[rv a1, rv ac, iv 0, iv 1, .val .null, rv t_3] [(.int 1), (.ref t_3), (.ref a1)]))
  obtain ⟨_, _, ⟨T4, L4, kk4, nn4⟩, -, X4, ⟨Lc4, hQ4, lq4, yq4, zq4⟩, st4⟩ := Jvm.LawKit.callS X3 hx (y := (⟨"java/lang/StringUTF16", "coderFromArrayLen", "([BI)B"⟩ : MethodName)) hown (mvT hZ (w28 hw)) (mvT hZ (w29 hw)) (mvT hZ (w22 hw)) (mvT hZ (w30 hw)) (by decide) (backOf (W := 1) (rm_cod l Z a0 hw [] t_3 kb_3 N_3 vs_3 (1 : Int32) h3 n0 (Nat.le_trans Z0 K3.1) p3_1) hZ (w30 hw) (w22 hw) (by decide) (by decide)) (g := (mkF m 45 #[rv a1, rv ac, iv 0, iv 1, .val .null, rv t_3] [(.int 1), (.ref t_3), (.ref a1)])) rfl (by rw [hml]; rfl) (argsL := [(.ref t_3), (.int 1)]) (rest := [(.ref a1)]) (lenOf pd_7 rfl) rfl (by show 2 * 0 + _ ≤ _; exact Nat.le_of_eq rfl) (hb hby d0_45) (fun _ _ => ⟨rfl, e3, (by decide : 2 + 0 ≤ _), (by decide : 3 + 0 ≤ _)⟩)
  dsimp only [Pt.U, Pt.locs, Pt.cells, Pt.slots] at X4 lq4 yq4 zq4 st4 hQ4
  subst lq4 yq4 zq4
  obtain ⟨h4, e4⟩ : ∃ z, T4.heap = z := ⟨_, rfl⟩
  rw [e4] at hQ4
  obtain ⟨r_4, rfl, N4q, he4⟩ := hQ4
  have N4 := Fr.app N3 N4q
  rw [he4] at e4
  refine go_st st4 ?_
  show Go _ _ _ _ (T4.setTop (mkF m 48 #[rv a1, rv ac, iv 0, iv 1, .val .null, rv t_3] [(.int (nar .byte r_4)), (.ref a1)]))
  have f5 : Fld Z h3 a1 "java/lang/String" "coder" "B" (.int 0) := (H2.keep K3 nin0)
  have f6 : Exa Z h3 a1 "java/lang/String" := (H0.keep K3)
  obtain ⟨T7, h7, X7, e7, W7, st7⟩ := putFN X4 hx hZ hown (w31 hw) Via.refl e4 f5 f6 (Or.inr ⟨(w32 hw), rfl, hnm⟩) (w7 hw) (ty := .byte) (v' := (.int (nar .byte (nar .byte r_4)))) (by decide) rfl (fits_nar_byte _) (g := (mkF m 48 #[rv a1, rv ac, iv 0, iv 1, .val .null, rv t_3] [(.int (nar .byte r_4)), (.ref a1)])) rfl rfl (hb hby d0_48)
  have N7 := Fr.snoc X7 N4 g_a1
  have f8 : Fld Z h7 a1 "java/lang/String" "coder" "B" (.int (nar .byte (nar .byte r_4))) := f5.same W7
  refine go_st (fun t k => st7 t k) ?_
  show Go _ _ _ _ (T7.setTop (mkF m 51 #[rv a1, rv ac, iv 0, iv 1, .val .null, rv t_3] []))
  refine go_st (fun t k => XS.aloadN X7.here hx rfl (hb hby d0_51) rfl rfl k) ?_
  show Go _ _ _ _ (T7.setTop (mkF m 52 #[rv a1, rv ac, iv 0, iv 1, .val .null, rv t_3] [(.ref a1)]))
  refine go_st (fun t k => XS.aload X7.here hx rfl (hb hby d0_52) rfl rfl k) ?_
  show Go _ _ _ _ (T7.setTop (mkF m 54 #[rv a1, rv ac, iv 0, iv 1, .val .null, rv t_3] [(.ref t_3), (.ref a1)]))
  have f9 : Fld Z h7 a1 "java/lang/String" "value" "[B" .null := ((H1.keep K3 nin0).other W7 (Or.inr (slot_ne (Or.inr (w34 hw)) (Or.inr (w32 hw)) (by decide) (t := (.array .byte)) (t' := .byte) (by decide) (by decide))))
  have f10 : Exa Z h7 a1 "java/lang/String" := (f6.wr W7)
  obtain ⟨T11, h11, X11, e11, W11, st11⟩ := putF X7 hx hZ hown (host := "") (Or.inl (w33 hw)) Via.refl e7 f9 f10 (Or.inr ⟨(w34 hw), rfl, hnm⟩) (w7 hw) (ty := (.array .byte)) (by decide) rfl rfl (g := (mkF m 54 #[rv a1, rv ac, iv 0, iv 1, .val .null, rv t_3] [(.ref t_3), (.ref a1)])) rfl rfl (hb hby d0_54)
  have N11 := Fr.snoc X11 N7 g_a1
  have f12 : Fld Z h11 a1 "java/lang/String" "value" "[B" (.ref t_3) := f9.same W11
  refine go_st (fun t k => st11 t k) ?_
  show Go _ _ _ _ (T11.setTop (mkF m 57 #[rv a1, rv ac, iv 0, iv 1, .val .null, rv t_3] []))
  have f13 : Exa Z h11 a1 "java/lang/String" := (f10.wr W11)
  have nq14 : a1 ≠ t_3 := Nat.ne_of_lt (Nat.lt_of_lt_of_le (Nat.lt_of_lt_of_le H0.lt (Nat.le_refl _)) lf3_0)
  have f15 : Arv Z h11 t_3 kb_3 .byte N_3 vs_3 (.int (0 : Int32)) := ((p3_1.other W7 (Ne.symm nq14)).other W11 (Ne.symm nq14))
  have ke16 : Keep h0 h3 [a1] := (Keep.trans (Keep.refl h0 [a1]) K3 all0)
  have ke17 : Keep h0 h7 [a1] := (Keep.wr ke16 W7 (Or.inl (List.mem_of_getElem? (i := 0) rfl)))
  have ke18 : Keep h0 h11 [a1] := (Keep.wr ke17 W11 (Or.inl (List.mem_of_getElem? (i := 0) rfl)))
  obtain ⟨fs, hr, hrun, hended, hW, hsame⟩ := X11.leave (v := none) (fun _ => rfl)
  refine ⟨_, _, ?_, hrun, hended, _, _, rfl, ?_, ⟨_, rfl⟩, hW, hsame.mono (by decide) (by decide)⟩
  · exact X11.returnOut hx Bd.returns (hb hby d0_57) hr
  · show Q_s4_1 _ _ _ _ _ _ _ _ _ T11.heap _
    rw [e11]
    exact ⟨t_3, kb_3, N_3, vs_3, rfl, N11, ke18, gf3_0, lf3_0, f13, f12, f15, hN_3⟩
def Q_s1_1 (Z : State) (a1 : Addr) (ac : Addr) (kc : ClassId) (c0 : Int32) (G1 : Int32) (h0 : Heap) (n0 : Nat) (vR : Option Value) (h : Heap) (L : List Loc) : Prop := ∃ (t : Addr) (kb : ClassId) (N : Int32) (vs : List Value), vR = none ∧ Fr n0 L ∧ Keep h0 h [a1] ∧ n0 ≤ t ∧ h0.size ≤ t ∧ (Exa Z h a1 "java/lang/String") ∧ (Fld Z h a1 "java/lang/String" "value" "[B" (.ref t)) ∧ (Arv Z h t kb .byte N vs (.int (0 : Int32))) ∧ (¬ N = (0 : Int32))
theorem ef_s1_1 (m : MethodId) (x0 : Addr) (x1 : Addr) : entryFrame m #[(.ref x0), (.ref x1)] 2 = mkF m 0 #[.val (.ref x0), .val (.ref x1)] [] := by first | (simp [entryFrame, mkF, argsToLocals, Value.category]; done) | rfl
set_option maxRecDepth 65536 in
set_option maxHeartbeats 40000000 in
theorem rm_s1_1 (l : Launch) (Z : State) (a0 : Array Value) (hw : ∀ d ∈ tables_1, d.before a0 Z = true) (ws : List Jvm.Cond) (a1 : Addr) (ac : Addr) (kc : ClassId) (c0 : Int32) (G1 : Int32) (h0 : Heap) (n0 : Nat) (Z0 : n0 ≤ h0.size) (H0 : Exa Z h0 a1 "java/lang/String") (H1 : Fld Z h0 a1 "java/lang/String" "value" "[B" .null) (H2 : Fld Z h0 a1 "java/lang/String" "coder" "B" (.int 0)) (H3 : Arv Z h0 ac kc .char (1 : Int32) [(.int c0)] (.int (0 : Int32))) (g_a1 : n0 ≤ a1) (ne_a1_ac : a1 ≠ ac) (AD : Sta Z Z.heap "java/lang/StringUTF16" "$assertionsDisabled" "Z" (.int (1 : Int32))) (HB : Sta Z Z.heap "java/lang/StringUTF16" "HI_BYTE_SHIFT" "I" (.int (0 : Int32))) (LB : Sta Z Z.heap "java/lang/StringUTF16" "LO_BYTE_SHIFT" "I" (.int (8 : Int32))) (CS : Sta Z Z.heap "java/lang/String" "COMPACT_STRINGS" "Z" (.int G1)) (CSn : ¬ (G1 = (0 : Int32))) (rg0 : 0 ≤ c0.toInt ∧ c0.toInt ≤ 65535) (O0 : Old Z n0 h0) :
    MetFree l (⟨"java/lang/String", "<init>", "([C)V"⟩ : MethodName) (head1 (Jvm.Cond.code (⟨"java/lang/String", "<init>", "([C)V"⟩ : MethodName) jdk_42_method_3_code 2 none :: ws) ({ frames := 5, cells := 2, slots := 3, locals := 74 } : Room)) (fun a U => a = #[(.ref a1), (.ref ac)] ∧ Z.Warmed39 U.vm ∧ U.heap = h0) (fun _ _ _ _ _ => True) (fun _ U o U' => ∃ v L, o = .returned v ∧ Q_s1_1 Z a1 ac kc c0 G1 h0 n0 v U'.heap L ∧ FrameEnd U o U' L ({ frames := 5, cells := 2, slots := 3, locals := 74 } : Room).cells ({ frames := 5, cells := 2, slots := 3, locals := 74 } : Room).slots) := by
  refine MetFree.of_bodySF (plainFor_of_name pn_java_lang_String) hisR ?_
  intro p e s m args below meth c s₁ Bd hml0 hP hK
  obtain ⟨rfl, hZ, hh⟩ := hP
  have hx := Bd.exec
  have hby := Bd.bytes
  have hml : c.maxLocals = 2 := hml0
  have hown : s.vm.findClass "java/lang/String" = some m.cls := findClass_of_methodNamed Bd.named
  have hnm := (name_of_methodNamed Bd.named Bd.method).1
  have X0 : Stand p l e ({ frames := 5, cells := 2, slots := 3, locals := 74 } : Room) s m #[(.ref a1), (.ref ac)] below meth c s₁ [] 0 0 := Stand.of_body Bd
  have e0 : s₁.heap = h0 := by rw [← hh, Bd.state]; rfl
  have N0 := Fr.nil n0
  refine go_st (fun t k => castTop (ef_s1_1 m a1 ac) k) ?_
  show Go _ _ _ _ (s₁.setTop (mkF m 0 #[rv a1, rv ac] []))
  refine go_st (fun t k => XS.aloadN X0.here hx rfl (hb hby d1_0) rfl rfl k) ?_
  show Go _ _ _ _ (s₁.setTop (mkF m 1 #[rv a1, rv ac] [(.ref a1)]))
  refine go_st (fun t k => XS.aloadN X0.here hx rfl (hb hby d1_1) rfl rfl k) ?_
  show Go _ _ _ _ (s₁.setTop (mkF m 2 #[rv a1, rv ac] [(.ref ac), (.ref a1)]))
  refine go_st (fun t k => XS.iconst X0.here hx rfl (hb hby d1_2) k) ?_
  show Go _ _ _ _ (s₁.setTop (mkF m 3 #[rv a1, rv ac] [(.int 0), (.ref ac), (.ref a1)]))
  refine go_st (fun t k => XS.aloadN X0.here hx rfl (hb hby d1_3) rfl rfl k) ?_
  show Go _ _ _ _ (s₁.setTop (mkF m 4 #[rv a1, rv ac] [(.ref ac), (.int 0), (.ref ac), (.ref a1)]))
  obtain ⟨zc1, zA1, zq1, zS1, zN1, zH1, zG1⟩ := id H3
  refine go_st (fun t k => X0.arraylength hx (by rw [e0]; exact zA1.1) (State.isArrayOf_alike hZ.alike zA1.2.1) (g := (mkF m 4 #[rv a1, rv ac] [(.ref ac), (.int 0), (.ref ac), (.ref a1)])) rfl rfl (hb hby d1_4) t k) ?_
  rw [len_of zS1 zN1]
  show Go _ _ _ _ (s₁.setTop (mkF m 5 #[rv a1, rv ac] [(.int 1), (.int 0), (.ref ac), (.ref a1)]))
  refine go_st (fun t k => XS.aconstNull X0.here hx rfl (hb hby d1_5) k) ?_
  show Go _ _ _ _ (s₁.setTop (mkF m 6 #[rv a1, rv ac] [.null, (.int 1), (.int 0), (.ref ac), (.ref a1)]))
  obtain ⟨_, _, ⟨T2, L2, kk2, nn2⟩, -, X2, ⟨Lc2, hQ2, lq2, yq2, zq2⟩, st2⟩ := X0.specialBack hx (y := (⟨"java/lang/String", "<init>", "([CIILjava/lang/Void;)V"⟩ : MethodName)) rfl hown (mvT hZ (w12 hw)) (mvT hZ (w13 hw)) (mvT hZ (w15 hw)) (by decide) (backOf (W := 0) (rm_s4_1 l Z a0 hw [] a1 ac kc c0 G1 h0 n0 (Nat.le_trans Z0 (Nat.le_refl _)) H0 H1 H2 H3 g_a1 ne_a1_ac AD HB LB CS CSn rg0 O0) hZ (w15 hw) (w8 hw) (by decide) (by decide)) (g := (mkF m 6 #[rv a1, rv ac] [.null, (.int 1), (.int 0), (.ref ac), (.ref a1)])) rfl (by rw [hml]; rfl) (Steps.refl _) (a := a1) (argsL := [(.ref ac), (.int 0), (.int 1), .null]) (rest := []) (lenOf pd_0 rfl) rfl (by show 2 * 0 + _ ≤ _; exact Nat.le_of_eq rfl) (hb hby d1_6) (fun _ _ => ⟨rfl, e0, (by decide : 0 + 2 ≤ _), (by decide : 0 + 3 ≤ _)⟩)
  dsimp only [Pt.U, Pt.locs, Pt.cells, Pt.slots] at X2 lq2 yq2 zq2 st2 hQ2
  subst lq2 yq2 zq2
  obtain ⟨h2, e2⟩ : ∃ z, T2.heap = z := ⟨_, rfl⟩
  rw [e2] at hQ2
  obtain ⟨t_2, kb_2, N_2, vs_2, rfl, N2q, K2, gf2_0, lf2_0, p2_1, p2_2, p2_3, hN_2⟩ := hQ2
  have N2 := Fr.app N0 N2q
  refine go_tr st2 ?_
  show Go _ _ _ _ (T2.setTop (mkF m 9 #[rv a1, rv ac] []))
  have ke3 : Keep h0 h2 [a1] := (Keep.trans (Keep.refl h0 [a1]) K2 (allS (Or.inl (List.mem_of_getElem? (i := 0) rfl)) all0))
  obtain ⟨fs, hr, hrun, hended, hW, hsame⟩ := X2.leave (v := none) (fun _ => rfl)
  refine ⟨_, _, ?_, hrun, hended, _, _, rfl, ?_, ⟨_, rfl⟩, hW, hsame.mono (by decide) (by decide)⟩
  · exact X2.returnOut hx Bd.returns (hb hby d1_9) hr
  · show Q_s1_1 _ _ _ _ _ _ _ _ _ T2.heap _
    rw [e2]
    exact ⟨t_2, kb_2, N_2, vs_2, rfl, N2, ke3, gf2_0, lf2_0, p2_1, p2_2, p2_3, hN_2⟩
def Q_cmp0_2 (Z : State) (ac : Addr) (kc : ClassId) (ab : Addr) (kb : ClassId) (c0 : Int32) (c1 : Int32) (y0 : Int32) (y1 : Int32) (h0 : Heap) (n0 : Nat) (vR : Option Value) (h : Heap) (L : List Loc) : Prop := ∃ (r : Int32) (vs : List Value), vR = some (.int r) ∧ Fr n0 L ∧ Keep h0 h [ab] ∧ (r = (2 : Int32) ∨ ((r = 0 ∧ (255 : Int32) < c0) ∨ (r = 1 ∧ (255 : Int32) < c1))) ∧ (Arv Z h ab kb .byte (2 : Int32) vs (.int (0 : Int32)))
theorem ef_cmp0_2 (m : MethodId) (x0 : Addr) (x1 : Int32) (x2 : Addr) (x3 : Int32) (x4 : Int32) : entryFrame m #[(.ref x0), (.int x1), (.ref x2), (.int x3), (.int x4)] 7 = mkF m 0 #[.val (.ref x0), .val (.int x1), .val (.ref x2), .val (.int x3), .val (.int x4), .unset, .unset] [] := by first | (simp [entryFrame, mkF, argsToLocals, Value.category]; done) | rfl
set_option maxRecDepth 65536 in
set_option maxHeartbeats 40000000 in
theorem rm_cmp0_2 (l : Launch) (Z : State) (a0 : Array Value) (hw : ∀ d ∈ tables_1, d.before a0 Z = true) (ws : List Jvm.Cond) (ac : Addr) (kc : ClassId) (ab : Addr) (kb : ClassId) (c0 : Int32) (c1 : Int32) (y0 : Int32) (y1 : Int32) (h0 : Heap) (n0 : Nat) (Z0 : n0 ≤ h0.size) (H0 : Arv Z h0 ac kc .char (2 : Int32) [(.int c0), (.int c1)] (.int (0 : Int32))) (H1 : Arv Z h0 ab kb .byte (2 : Int32) [(.int y0), (.int y1)] (.int (0 : Int32))) (g_ab : n0 ≤ ab) (ne_ac_ab : ac ≠ ab) :
    MetFree l (⟨"java/lang/StringUTF16", "compress", "([CI[BII)I"⟩ : MethodName) (head1 (Jvm.Cond.code (⟨"java/lang/StringUTF16", "compress", "([CI[BII)I"⟩ : MethodName) jdk_52_method_21_code 7 (some .int) :: ws) ({ frames := 0, cells := 0, slots := 0, locals := 0 } : Room)) (fun a U => a = #[(.ref ac), (.int 0), (.ref ab), (.int 0), (.int 2)] ∧ Z.Warmed39 U.vm ∧ U.heap = h0) (fun _ _ _ _ _ => True) (fun _ U o U' => ∃ v L, o = .returned v ∧ Q_cmp0_2 Z ac kc ab kb c0 c1 y0 y1 h0 n0 v U'.heap L ∧ FrameEnd U o U' L ({ frames := 0, cells := 0, slots := 0, locals := 0 } : Room).cells ({ frames := 0, cells := 0, slots := 0, locals := 0 } : Room).slots) := by
  refine MetFree.of_bodySF (plainFor_of_name pn_java_lang_StringUTF16) hisR ?_
  intro p e s m args below meth c s₁ Bd hml0 hP hK
  obtain ⟨rfl, hZ, hh⟩ := hP
  have hx := Bd.exec
  have hby := Bd.bytes
  have hml : c.maxLocals = 7 := hml0
  have hown : s.vm.findClass "java/lang/StringUTF16" = some m.cls := findClass_of_methodNamed Bd.named
  have hnm := (name_of_methodNamed Bd.named Bd.method).1
  have X0 : Stand p l e ({ frames := 0, cells := 0, slots := 0, locals := 0 } : Room) s m #[(.ref ac), (.int 0), (.ref ab), (.int 0), (.int 2)] below meth c s₁ [] 0 0 := Stand.of_body Bd
  have e0 : s₁.heap = h0 := by rw [← hh, Bd.state]; rfl
  have N0 := Fr.nil n0
  refine go_st (fun t k => castTop (ef_cmp0_2 m ac (0 : Int32) ab (0 : Int32) (2 : Int32)) k) ?_
  show Go _ _ _ _ (s₁.setTop (mkF m 0 #[rv ac, iv 0, rv ab, iv 0, iv 2, .unset, .unset] []))
  refine go_st (fun t k => XS.iconst X0.here hx rfl (hb hby d3_0) k) ?_
  show Go _ _ _ _ (s₁.setTop (mkF m 1 #[rv ac, iv 0, rv ab, iv 0, iv 2, .unset, .unset] [(.int 0)]))
  refine go_st (fun t k => XS.istore X0.here hx rfl (hb hby d3_1) rfl (l' := #[rv ac, iv 0, rv ab, iv 0, iv 2, iv 0, .unset]) rfl k) ?_
  show Go _ _ _ _ (s₁.setTop (mkF m 3 #[rv ac, iv 0, rv ab, iv 0, iv 2, iv 0, .unset] []))
  refine go_st (fun t k => XS.iload X0.here hx rfl (hb hby d3_3) rfl k) ?_
  show Go _ _ _ _ (s₁.setTop (mkF m 5 #[rv ac, iv 0, rv ab, iv 0, iv 2, iv 0, .unset] [(.int 0)]))
  refine go_st (fun t k => XS.iload X0.here hx rfl (hb hby d3_5) rfl k) ?_
  show Go _ _ _ _ (s₁.setTop (mkF m 7 #[rv ac, iv 0, rv ab, iv 0, iv 2, iv 0, .unset] [(.int 2), (.int 0)]))
  refine go_st (fun t k => XS.icmpNo X0.here hx rfl (hb hby d3_7) rfl (tlt ((by decide) : (0 : Int32) < (2 : Int32))).2.1 k) ?_
  show Go _ _ _ _ (s₁.setTop (mkF m 10 #[rv ac, iv 0, rv ab, iv 0, iv 2, iv 0, .unset] []))
  refine go_st (fun t k => XS.aloadN X0.here hx rfl (hb hby d3_10) rfl rfl k) ?_
  show Go _ _ _ _ (s₁.setTop (mkF m 11 #[rv ac, iv 0, rv ab, iv 0, iv 2, iv 0, .unset] [(.ref ac)]))
  refine go_st (fun t k => XS.iloadN X0.here hx rfl (hb hby d3_11) rfl k) ?_
  show Go _ _ _ _ (s₁.setTop (mkF m 12 #[rv ac, iv 0, rv ab, iv 0, iv 2, iv 0, .unset] [(.int 0), (.ref ac)]))
  obtain ⟨zc1, zA1, zq1, zS1, zN1, zH1, zG1⟩ := id H0
  have hin1 : ¬ ((0 : Int32) < 0 ∨ zc1.slots.size ≤ ((0 : Int32)).toNatClampNeg) := inb_of zS1 ⟨by decide, by decide⟩
  have hat1 : zc1.slots[((0 : Int32)).toNatClampNeg]? = some (.int c0) := Has.at zH1 hin1 rfl
  refine go_st (fun t k => X0.caload hx (j := (0 : Int32)) (v := (.int c0)) (by rw [e0]; exact zA1.1) (State.isArrayOf_alike hZ.alike zA1.2.1) zA1.2.2 hin1 hat1 (g := (mkF m 12 #[rv ac, iv 0, rv ab, iv 0, iv 2, iv 0, .unset] [(.int 0), (.ref ac)])) rfl rfl (hb hby d3_12) t k) ?_
  show Go _ _ _ _ (s₁.setTop (mkF m 13 #[rv ac, iv 0, rv ab, iv 0, iv 2, iv 0, .unset] [(.int c0)]))
  refine go_st (fun t k => XS.istore X0.here hx rfl (hb hby d3_13) rfl (l' := #[rv ac, iv 0, rv ab, iv 0, iv 2, iv 0, iv c0]) rfl k) ?_
  show Go _ _ _ _ (s₁.setTop (mkF m 15 #[rv ac, iv 0, rv ab, iv 0, iv 2, iv 0, iv c0] []))
  refine go_st (fun t k => XS.iload X0.here hx rfl (hb hby d3_15) rfl k) ?_
  show Go _ _ _ _ (s₁.setTop (mkF m 17 #[rv ac, iv 0, rv ab, iv 0, iv 2, iv 0, iv c0] [(.int c0)]))
  refine go_st (fun t k => XS.sipush X0.here hx rfl (hb hby d3_17) k) ?_
  show Go _ _ _ _ (s₁.setTop (mkF m 20 #[rv ac, iv 0, rv ab, iv 0, iv 2, iv 0, iv c0] [(.int 255), (.int c0)]))
  by_cases hc2 : (255 : Int32) < c0
  · skip
    refine go_st (fun t k => XS.icmpNo X0.here hx rfl (hb hby d3_20) rfl (tlt (hc2 : (255 : Int32) < c0)).2.2.2 k) ?_
    show Go _ _ _ _ (s₁.setTop (mkF m 23 #[rv ac, iv 0, rv ab, iv 0, iv 2, iv 0, iv c0] []))
    refine go_st (fun t k => XS.iload X0.here hx rfl (hb hby d3_23) rfl k) ?_
    show Go _ _ _ _ (s₁.setTop (mkF m 25 #[rv ac, iv 0, rv ab, iv 0, iv 2, iv 0, iv c0] [(.int 0)]))
    obtain ⟨fs, hr, hrun, hended, hW, hsame⟩ := X0.leave (v := some (.int 0)) (fun h => by rw [Bd.returns] at h; cases h)
    refine ⟨_, _, ?_, hrun, hended, _, _, rfl, ?_, ⟨_, rfl⟩, hW, hsame.mono (by decide) (by decide)⟩
    · exact retI X0 hx Bd.returns (hb hby d3_25) hr
    · show Q_cmp0_2 _ _ _ _ _ _ _ _ _ _ _ _ s₁.heap _
      rw [e0]
      exact ⟨(0 : Int32), [(.int y0), (.int y1)], rfl, N0, (Keep.refl h0 [ab]), (Or.inr (Or.inl ⟨rfl, hc2⟩)), H1⟩
  · skip
    refine go_st (fun t k => XS.icmpYes X0.here hx rfl (pc0 := 20) (pc' := 26) rfl (hb hby d3_20) rfl (flt (hc2 : ¬ ((255 : Int32) < c0))).2.2.2 (by decide) (by decide) k) ?_
    show Go _ _ _ _ (s₁.setTop (mkF m 26 #[rv ac, iv 0, rv ab, iv 0, iv 2, iv 0, iv c0] []))
    refine go_st (fun t k => XS.aloadN X0.here hx rfl (hb hby d3_26) rfl rfl k) ?_
    show Go _ _ _ _ (s₁.setTop (mkF m 27 #[rv ac, iv 0, rv ab, iv 0, iv 2, iv 0, iv c0] [(.ref ab)]))
    refine go_st (fun t k => XS.iloadN X0.here hx rfl (hb hby d3_27) rfl k) ?_
    show Go _ _ _ _ (s₁.setTop (mkF m 28 #[rv ac, iv 0, rv ab, iv 0, iv 2, iv 0, iv c0] [(.int 0), (.ref ab)]))
    refine go_st (fun t k => XS.iload X0.here hx rfl (hb hby d3_28) rfl k) ?_
    show Go _ _ _ _ (s₁.setTop (mkF m 30 #[rv ac, iv 0, rv ab, iv 0, iv 2, iv 0, iv c0] [(.int c0), (.int 0), (.ref ab)]))
    refine go_st (fun t k => XS.i2b X0.here hx rfl (hb hby d3_30) rfl k) ?_
    show Go _ _ _ _ (s₁.setTop (mkF m 31 #[rv ac, iv 0, rv ab, iv 0, iv 2, iv 0, iv c0] [(.int ((c0).toInt8.toInt32)), (.int 0), (.ref ab)]))
    obtain ⟨zc3, zA3, zq3, zS3, zN3, zH3, zG3⟩ := id H1
    have hin3 : ¬ ((0 : Int32) < 0 ∨ zc3.slots.size ≤ ((0 : Int32)).toNatClampNeg) := inb_of zS3 ⟨by decide, by decide⟩
    obtain ⟨T3, h3, X3, e3, W3, st3⟩ := stB X0 hx hZ e0 zA3 (j := (0 : Int32)) hin3 (g := (mkF m 31 #[rv ac, iv 0, rv ab, iv 0, iv 2, iv 0, iv c0] [(.int ((c0).toInt8.toInt32)), (.int 0), (.ref ab)])) rfl rfl (hb hby d3_31)
    have N3 := Fr.snoc X3 N0 g_ab
    have f4 : Arv Z h3 ab kb .byte (2 : Int32) [(.int (nar .byte ((c0).toInt8.toInt32))), (.int y1)] (.int (0 : Int32)) := Arv.set zA3 zq3 zS3 zN3 zH3 zG3 (fits_nar_byte _) W3 0 rfl (Nat.le_of_ble_eq_true rfl)
    refine go_st (fun t k => st3 t k) ?_
    show Go _ _ _ _ (T3.setTop (mkF m 32 #[rv ac, iv 0, rv ab, iv 0, iv 2, iv 0, iv c0] []))
    refine go_st (fun t k => XS.iinc X3.here hx rfl (hb hby d3_32) rfl (l' := #[rv ac, iv ((0 : Int32) + (1 : Int32)), rv ab, iv 0, iv 2, iv 0, iv c0]) rfl k) ?_
    rw [show ((0 : Int32) + (1 : Int32)) = (1 : Int32) from by decide]
    show Go _ _ _ _ (T3.setTop (mkF m 35 #[rv ac, iv 1, rv ab, iv 0, iv 2, iv 0, iv c0] []))
    refine go_st (fun t k => XS.iinc X3.here hx rfl (hb hby d3_35) rfl (l' := #[rv ac, iv 1, rv ab, iv ((0 : Int32) + (1 : Int32)), iv 2, iv 0, iv c0]) rfl k) ?_
    rw [show ((0 : Int32) + (1 : Int32)) = (1 : Int32) from by decide]
    show Go _ _ _ _ (T3.setTop (mkF m 38 #[rv ac, iv 1, rv ab, iv 1, iv 2, iv 0, iv c0] []))
    refine go_st (fun t k => XS.iinc X3.here hx rfl (hb hby d3_38) rfl (l' := #[rv ac, iv 1, rv ab, iv 1, iv 2, iv ((0 : Int32) + (1 : Int32)), iv c0]) rfl k) ?_
    rw [show ((0 : Int32) + (1 : Int32)) = (1 : Int32) from by decide]
    show Go _ _ _ _ (T3.setTop (mkF m 41 #[rv ac, iv 1, rv ab, iv 1, iv 2, iv 1, iv c0] []))
    refine go_st (fun t k => XS.goto X3.here hx rfl (pc0 := 41) (pc' := 3) rfl (hb hby d3_41) (by decide) (by decide) k) ?_
    show Go _ _ _ _ (T3.setTop (mkF m 3 #[rv ac, iv 1, rv ab, iv 1, iv 2, iv 1, iv c0] []))
    refine go_st (fun t k => XS.iload X3.here hx rfl (hb hby d3_3) rfl k) ?_
    show Go _ _ _ _ (T3.setTop (mkF m 5 #[rv ac, iv 1, rv ab, iv 1, iv 2, iv 1, iv c0] [(.int 1)]))
    refine go_st (fun t k => XS.iload X3.here hx rfl (hb hby d3_5) rfl k) ?_
    show Go _ _ _ _ (T3.setTop (mkF m 7 #[rv ac, iv 1, rv ab, iv 1, iv 2, iv 1, iv c0] [(.int 2), (.int 1)]))
    refine go_st (fun t k => XS.icmpNo X3.here hx rfl (hb hby d3_7) rfl (tlt ((by decide) : (1 : Int32) < (2 : Int32))).2.1 k) ?_
    show Go _ _ _ _ (T3.setTop (mkF m 10 #[rv ac, iv 1, rv ab, iv 1, iv 2, iv 1, iv c0] []))
    refine go_st (fun t k => XS.aloadN X3.here hx rfl (hb hby d3_10) rfl rfl k) ?_
    show Go _ _ _ _ (T3.setTop (mkF m 11 #[rv ac, iv 1, rv ab, iv 1, iv 2, iv 1, iv c0] [(.ref ac)]))
    refine go_st (fun t k => XS.iloadN X3.here hx rfl (hb hby d3_11) rfl k) ?_
    show Go _ _ _ _ (T3.setTop (mkF m 12 #[rv ac, iv 1, rv ab, iv 1, iv 2, iv 1, iv c0] [(.int 1), (.ref ac)]))
    have f5 : Arv Z h3 ac kc .char (2 : Int32) [(.int c0), (.int c1)] (.int (0 : Int32)) := (H0.other W3 ne_ac_ab)
    obtain ⟨zc6, zA6, zq6, zS6, zN6, zH6, zG6⟩ := id f5
    have hin6 : ¬ ((1 : Int32) < 0 ∨ zc6.slots.size ≤ ((1 : Int32)).toNatClampNeg) := inb_of zS6 ⟨by decide, by decide⟩
    have hat6 : zc6.slots[((1 : Int32)).toNatClampNeg]? = some (.int c1) := Has.at zH6 hin6 rfl
    refine go_st (fun t k => X3.caload hx (j := (1 : Int32)) (v := (.int c1)) (by rw [e3]; exact zA6.1) (State.isArrayOf_alike hZ.alike zA6.2.1) zA6.2.2 hin6 hat6 (g := (mkF m 12 #[rv ac, iv 1, rv ab, iv 1, iv 2, iv 1, iv c0] [(.int 1), (.ref ac)])) rfl rfl (hb hby d3_12) t k) ?_
    show Go _ _ _ _ (T3.setTop (mkF m 13 #[rv ac, iv 1, rv ab, iv 1, iv 2, iv 1, iv c0] [(.int c1)]))
    refine go_st (fun t k => XS.istore X3.here hx rfl (hb hby d3_13) rfl (l' := #[rv ac, iv 1, rv ab, iv 1, iv 2, iv 1, iv c1]) rfl k) ?_
    show Go _ _ _ _ (T3.setTop (mkF m 15 #[rv ac, iv 1, rv ab, iv 1, iv 2, iv 1, iv c1] []))
    refine go_st (fun t k => XS.iload X3.here hx rfl (hb hby d3_15) rfl k) ?_
    show Go _ _ _ _ (T3.setTop (mkF m 17 #[rv ac, iv 1, rv ab, iv 1, iv 2, iv 1, iv c1] [(.int c1)]))
    refine go_st (fun t k => XS.sipush X3.here hx rfl (hb hby d3_17) k) ?_
    show Go _ _ _ _ (T3.setTop (mkF m 20 #[rv ac, iv 1, rv ab, iv 1, iv 2, iv 1, iv c1] [(.int 255), (.int c1)]))
    by_cases hc7 : (255 : Int32) < c1
    · skip
      refine go_st (fun t k => XS.icmpNo X3.here hx rfl (hb hby d3_20) rfl (tlt (hc7 : (255 : Int32) < c1)).2.2.2 k) ?_
      show Go _ _ _ _ (T3.setTop (mkF m 23 #[rv ac, iv 1, rv ab, iv 1, iv 2, iv 1, iv c1] []))
      refine go_st (fun t k => XS.iload X3.here hx rfl (hb hby d3_23) rfl k) ?_
      show Go _ _ _ _ (T3.setTop (mkF m 25 #[rv ac, iv 1, rv ab, iv 1, iv 2, iv 1, iv c1] [(.int 1)]))
      have ke8 : Keep h0 h3 [ab] := (Keep.wr (Keep.refl h0 [ab]) W3 (Or.inl (List.mem_of_getElem? (i := 0) rfl)))
      obtain ⟨fs, hr, hrun, hended, hW, hsame⟩ := X3.leave (v := some (.int 1)) (fun h => by rw [Bd.returns] at h; cases h)
      refine ⟨_, _, ?_, hrun, hended, _, _, rfl, ?_, ⟨_, rfl⟩, hW, hsame.mono (by decide) (by decide)⟩
      · exact retI X3 hx Bd.returns (hb hby d3_25) hr
      · show Q_cmp0_2 _ _ _ _ _ _ _ _ _ _ _ _ T3.heap _
        rw [e3]
        exact ⟨(1 : Int32), [(.int (nar .byte ((c0).toInt8.toInt32))), (.int y1)], rfl, N3, ke8, (Or.inr (Or.inr ⟨rfl, hc7⟩)), f4⟩
    · skip
      refine go_st (fun t k => XS.icmpYes X3.here hx rfl (pc0 := 20) (pc' := 26) rfl (hb hby d3_20) rfl (flt (hc7 : ¬ ((255 : Int32) < c1))).2.2.2 (by decide) (by decide) k) ?_
      show Go _ _ _ _ (T3.setTop (mkF m 26 #[rv ac, iv 1, rv ab, iv 1, iv 2, iv 1, iv c1] []))
      refine go_st (fun t k => XS.aloadN X3.here hx rfl (hb hby d3_26) rfl rfl k) ?_
      show Go _ _ _ _ (T3.setTop (mkF m 27 #[rv ac, iv 1, rv ab, iv 1, iv 2, iv 1, iv c1] [(.ref ab)]))
      refine go_st (fun t k => XS.iloadN X3.here hx rfl (hb hby d3_27) rfl k) ?_
      show Go _ _ _ _ (T3.setTop (mkF m 28 #[rv ac, iv 1, rv ab, iv 1, iv 2, iv 1, iv c1] [(.int 1), (.ref ab)]))
      refine go_st (fun t k => XS.iload X3.here hx rfl (hb hby d3_28) rfl k) ?_
      show Go _ _ _ _ (T3.setTop (mkF m 30 #[rv ac, iv 1, rv ab, iv 1, iv 2, iv 1, iv c1] [(.int c1), (.int 1), (.ref ab)]))
      refine go_st (fun t k => XS.i2b X3.here hx rfl (hb hby d3_30) rfl k) ?_
      show Go _ _ _ _ (T3.setTop (mkF m 31 #[rv ac, iv 1, rv ab, iv 1, iv 2, iv 1, iv c1] [(.int ((c1).toInt8.toInt32)), (.int 1), (.ref ab)]))
      obtain ⟨zc9, zA9, zq9, zS9, zN9, zH9, zG9⟩ := id f4
      have hin9 : ¬ ((1 : Int32) < 0 ∨ zc9.slots.size ≤ ((1 : Int32)).toNatClampNeg) := inb_of zS9 ⟨by decide, by decide⟩
      obtain ⟨T9, h9, X9, e9, W9, st9⟩ := stB X3 hx hZ e3 zA9 (j := (1 : Int32)) hin9 (g := (mkF m 31 #[rv ac, iv 1, rv ab, iv 1, iv 2, iv 1, iv c1] [(.int ((c1).toInt8.toInt32)), (.int 1), (.ref ab)])) rfl rfl (hb hby d3_31)
      have N9 := Fr.snoc X9 N3 g_ab
      have f10 : Arv Z h9 ab kb .byte (2 : Int32) [(.int (nar .byte ((c0).toInt8.toInt32))), (.int (nar .byte ((c1).toInt8.toInt32)))] (.int (0 : Int32)) := Arv.set zA9 zq9 zS9 zN9 zH9 zG9 (fits_nar_byte _) W9 1 rfl (Nat.le_of_ble_eq_true rfl)
      refine go_st (fun t k => st9 t k) ?_
      show Go _ _ _ _ (T9.setTop (mkF m 32 #[rv ac, iv 1, rv ab, iv 1, iv 2, iv 1, iv c1] []))
      refine go_st (fun t k => XS.iinc X9.here hx rfl (hb hby d3_32) rfl (l' := #[rv ac, iv ((1 : Int32) + (1 : Int32)), rv ab, iv 1, iv 2, iv 1, iv c1]) rfl k) ?_
      rw [show ((1 : Int32) + (1 : Int32)) = (2 : Int32) from by decide]
      show Go _ _ _ _ (T9.setTop (mkF m 35 #[rv ac, iv 2, rv ab, iv 1, iv 2, iv 1, iv c1] []))
      refine go_st (fun t k => XS.iinc X9.here hx rfl (hb hby d3_35) rfl (l' := #[rv ac, iv 2, rv ab, iv ((1 : Int32) + (1 : Int32)), iv 2, iv 1, iv c1]) rfl k) ?_
      rw [show ((1 : Int32) + (1 : Int32)) = (2 : Int32) from by decide]
      show Go _ _ _ _ (T9.setTop (mkF m 38 #[rv ac, iv 2, rv ab, iv 2, iv 2, iv 1, iv c1] []))
      refine go_st (fun t k => XS.iinc X9.here hx rfl (hb hby d3_38) rfl (l' := #[rv ac, iv 2, rv ab, iv 2, iv 2, iv ((1 : Int32) + (1 : Int32)), iv c1]) rfl k) ?_
      rw [show ((1 : Int32) + (1 : Int32)) = (2 : Int32) from by decide]
      show Go _ _ _ _ (T9.setTop (mkF m 41 #[rv ac, iv 2, rv ab, iv 2, iv 2, iv 2, iv c1] []))
      refine go_st (fun t k => XS.goto X9.here hx rfl (pc0 := 41) (pc' := 3) rfl (hb hby d3_41) (by decide) (by decide) k) ?_
      show Go _ _ _ _ (T9.setTop (mkF m 3 #[rv ac, iv 2, rv ab, iv 2, iv 2, iv 2, iv c1] []))
      refine go_st (fun t k => XS.iload X9.here hx rfl (hb hby d3_3) rfl k) ?_
      show Go _ _ _ _ (T9.setTop (mkF m 5 #[rv ac, iv 2, rv ab, iv 2, iv 2, iv 2, iv c1] [(.int 2)]))
      refine go_st (fun t k => XS.iload X9.here hx rfl (hb hby d3_5) rfl k) ?_
      show Go _ _ _ _ (T9.setTop (mkF m 7 #[rv ac, iv 2, rv ab, iv 2, iv 2, iv 2, iv c1] [(.int 2), (.int 2)]))
      refine go_st (fun t k => XS.icmpYes X9.here hx rfl (pc0 := 7) (pc' := 44) rfl (hb hby d3_7) rfl (flt ((by decide) : ¬ ((2 : Int32) < (2 : Int32)))).2.1 (by decide) (by decide) k) ?_
      show Go _ _ _ _ (T9.setTop (mkF m 44 #[rv ac, iv 2, rv ab, iv 2, iv 2, iv 2, iv c1] []))
      refine go_st (fun t k => XS.iload X9.here hx rfl (hb hby d3_44) rfl k) ?_
      show Go _ _ _ _ (T9.setTop (mkF m 46 #[rv ac, iv 2, rv ab, iv 2, iv 2, iv 2, iv c1] [(.int 2)]))
      have ke11 : Keep h0 h3 [ab] := (Keep.wr (Keep.refl h0 [ab]) W3 (Or.inl (List.mem_of_getElem? (i := 0) rfl)))
      have ke12 : Keep h0 h9 [ab] := (Keep.wr ke11 W9 (Or.inl (List.mem_of_getElem? (i := 0) rfl)))
      obtain ⟨fs, hr, hrun, hended, hW, hsame⟩ := X9.leave (v := some (.int 2)) (fun h => by rw [Bd.returns] at h; cases h)
      refine ⟨_, _, ?_, hrun, hended, _, _, rfl, ?_, ⟨_, rfl⟩, hW, hsame.mono (by decide) (by decide)⟩
      · exact retI X9 hx Bd.returns (hb hby d3_46) hr
      · show Q_cmp0_2 _ _ _ _ _ _ _ _ _ _ _ _ T9.heap _
        rw [e9]
        exact ⟨(2 : Int32), [(.int (nar .byte ((c0).toInt8.toInt32))), (.int (nar .byte ((c1).toInt8.toInt32)))], rfl, N9, ke12, (Or.inl rfl), f10⟩
def Q_nbl2 (Z : State)  (h0 : Heap) (n0 : Nat) (vR : Option Value) (h : Heap) (L : List Loc) : Prop := vR = some (.int 4) ∧ Fr n0 L ∧ h = h0
theorem ef_nbl2 (m : MethodId) (x0 : Int32) : entryFrame m #[(.int x0)] 1 = mkF m 0 #[.val (.int x0)] [] := by first | (simp [entryFrame, mkF, argsToLocals, Value.category]; done) | rfl
set_option maxRecDepth 65536 in
set_option maxHeartbeats 40000000 in
theorem rm_nbl2 (l : Launch) (Z : State) (a0 : Array Value) (hw : ∀ d ∈ tables_1, d.before a0 Z = true) (ws : List Jvm.Cond)  (h0 : Heap) (n0 : Nat) (Z0 : n0 ≤ h0.size)  :
    MetFree l (⟨"java/lang/StringUTF16", "newBytesLength", "(I)I"⟩ : MethodName) (head1 (Jvm.Cond.code (⟨"java/lang/StringUTF16", "newBytesLength", "(I)I"⟩ : MethodName) jdk_52_method_3_code 1 (some .int) :: ws) ({ frames := 0, cells := 0, slots := 0, locals := 0 } : Room)) (fun a U => a = #[(.int 2)] ∧ Z.Warmed39 U.vm ∧ U.heap = h0) (fun _ _ _ _ _ => True) (fun _ U o U' => ∃ v L, o = .returned v ∧ Q_nbl2 Z h0 n0 v U'.heap L ∧ FrameEnd U o U' L ({ frames := 0, cells := 0, slots := 0, locals := 0 } : Room).cells ({ frames := 0, cells := 0, slots := 0, locals := 0 } : Room).slots) := by
  refine MetFree.of_bodySF (plainFor_of_name pn_java_lang_StringUTF16) hisR ?_
  intro p e s m args below meth c s₁ Bd hml0 hP hK
  obtain ⟨rfl, hZ, hh⟩ := hP
  have hx := Bd.exec
  have hby := Bd.bytes
  have hml : c.maxLocals = 1 := hml0
  have hown : s.vm.findClass "java/lang/StringUTF16" = some m.cls := findClass_of_methodNamed Bd.named
  have hnm := (name_of_methodNamed Bd.named Bd.method).1
  have X0 : Stand p l e ({ frames := 0, cells := 0, slots := 0, locals := 0 } : Room) s m #[(.int 2)] below meth c s₁ [] 0 0 := Stand.of_body Bd
  have e0 : s₁.heap = h0 := by rw [← hh, Bd.state]; rfl
  have N0 := Fr.nil n0
  refine go_st (fun t k => castTop (ef_nbl2 m (2 : Int32)) k) ?_
  show Go _ _ _ _ (s₁.setTop (mkF m 0 #[iv 2] []))
  refine go_st (fun t k => XS.iloadN X0.here hx rfl (hb hby d4_0) rfl k) ?_
  show Go _ _ _ _ (s₁.setTop (mkF m 1 #[iv 2] [(.int 2)]))
  refine go_st (fun t k => XS.ifYes X0.here hx rfl (pc0 := 1) (pc' := 12) rfl (hb hby d4_1) rfl ((if0 _ _).trans (flt ((by decide) : ¬ ((2 : Int32) < (0 : Int32)))).2.1) (by decide) (by decide) k) ?_
  show Go _ _ _ _ (s₁.setTop (mkF m 12 #[iv 2] []))
  refine go_st (fun t k => XS.iloadN X0.here hx rfl (hb hby d4_12) rfl k) ?_
  show Go _ _ _ _ (s₁.setTop (mkF m 13 #[iv 2] [(.int 2)]))
  refine go_st (fun t k => X0.ldcInt hx hown (mvT hZ (w70 hw)) (g := (mkF m 13 #[iv 2] [(.int 2)])) rfl (hb hby d4_13) t k) ?_
  show Go _ _ _ _ (s₁.setTop (mkF m 15 #[iv 2] [(.int 1073741823), (.int 2)]))
  refine go_st (fun t k => XS.icmpYes X0.here hx rfl (pc0 := 15) (pc' := 55) rfl (hb hby d4_15) rfl (tlt ((by decide) : (2 : Int32) < (1073741823 : Int32))).1 (by decide) (by decide) k) ?_
  show Go _ _ _ _ (s₁.setTop (mkF m 55 #[iv 2] []))
  refine go_st (fun t k => XS.iloadN X0.here hx rfl (hb hby d4_55) rfl k) ?_
  show Go _ _ _ _ (s₁.setTop (mkF m 56 #[iv 2] [(.int 2)]))
  refine go_st (fun t k => XS.iconst X0.here hx rfl (hb hby d4_56) k) ?_
  show Go _ _ _ _ (s₁.setTop (mkF m 57 #[iv 2] [(.int 1), (.int 2)]))
  refine go_st (fun t k => XS.ishl X0.here hx rfl (hb hby d4_57) rfl k) ?_
  rw [show ((2 : Int32) <<< ((1 : Int32) &&& 31)) = (4 : Int32) from by decide]
  show Go _ _ _ _ (s₁.setTop (mkF m 58 #[iv 2] [(.int 4)]))
  obtain ⟨fs, hr, hrun, hended, hW, hsame⟩ := X0.leave (v := some (.int 4)) (fun h => by rw [Bd.returns] at h; cases h)
  refine ⟨_, _, ?_, hrun, hended, _, _, rfl, ?_, ⟨_, rfl⟩, hW, hsame.mono (by decide) (by decide)⟩
  · exact retI X0 hx Bd.returns (hb hby d4_58) hr
  · show Q_nbl2 _ _ _ _ s₁.heap _
    rw [e0]
    exact ⟨rfl, N0, rfl⟩
def Q_nbf2 (Z : State)  (h0 : Heap) (n0 : Nat) (vR : Option Value) (h : Heap) (L : List Loc) : Prop := ∃ (t : Addr) (kb : ClassId), vR = some (.ref t) ∧ Fr n0 L ∧ Keep h0 h [] ∧ n0 ≤ t ∧ h0.size ≤ t ∧ (Arv Z h t kb .byte (4 : Int32) [(.int 0), (.int 0), (.int 0), (.int 0)] (.int (0 : Int32)))
theorem ef_nbf2 (m : MethodId) (x0 : Int32) : entryFrame m #[(.int x0)] 1 = mkF m 0 #[.val (.int x0)] [] := by first | (simp [entryFrame, mkF, argsToLocals, Value.category]; done) | rfl
set_option maxRecDepth 65536 in
set_option maxHeartbeats 40000000 in
theorem rm_nbf2 (l : Launch) (Z : State) (a0 : Array Value) (hw : ∀ d ∈ tables_1, d.before a0 Z = true) (ws : List Jvm.Cond)  (h0 : Heap) (n0 : Nat) (Z0 : n0 ≤ h0.size)  :
    MetFree l (⟨"java/lang/StringUTF16", "newBytesFor", "(I)[B"⟩ : MethodName) (head1 (Jvm.Cond.code (⟨"java/lang/StringUTF16", "newBytesFor", "(I)[B"⟩ : MethodName) jdk_52_method_2_code 1 (some (.array .byte)) :: ws) ({ frames := 1, cells := 1, slots := 4, locals := 12 } : Room)) (fun a U => a = #[(.int 2)] ∧ Z.Warmed39 U.vm ∧ U.heap = h0) (fun _ _ _ _ _ => True) (fun _ U o U' => ∃ v L, o = .returned v ∧ Q_nbf2 Z h0 n0 v U'.heap L ∧ FrameEnd U o U' L ({ frames := 1, cells := 1, slots := 4, locals := 12 } : Room).cells ({ frames := 1, cells := 1, slots := 4, locals := 12 } : Room).slots) := by
  refine MetFree.of_bodySF (plainFor_of_name pn_java_lang_StringUTF16) hisR ?_
  intro p e s m args below meth c s₁ Bd hml0 hP hK
  obtain ⟨rfl, hZ, hh⟩ := hP
  have hx := Bd.exec
  have hby := Bd.bytes
  have hml : c.maxLocals = 1 := hml0
  have hown : s.vm.findClass "java/lang/StringUTF16" = some m.cls := findClass_of_methodNamed Bd.named
  have hnm := (name_of_methodNamed Bd.named Bd.method).1
  have X0 : Stand p l e ({ frames := 1, cells := 1, slots := 4, locals := 12 } : Room) s m #[(.int 2)] below meth c s₁ [] 0 0 := Stand.of_body Bd
  have e0 : s₁.heap = h0 := by rw [← hh, Bd.state]; rfl
  have N0 := Fr.nil n0
  refine go_st (fun t k => castTop (ef_nbf2 m (2 : Int32)) k) ?_
  show Go _ _ _ _ (s₁.setTop (mkF m 0 #[iv 2] []))
  refine go_st (fun t k => XS.iloadN X0.here hx rfl (hb hby d5_0) rfl k) ?_
  show Go _ _ _ _ (s₁.setTop (mkF m 1 #[iv 2] [(.int 2)]))
  obtain ⟨_, _, ⟨T1, L1, kk1, nn1⟩, -, X1, ⟨Lc1, hQ1, lq1, yq1, zq1⟩, st1⟩ := Jvm.LawKit.callS X0 hx (y := (⟨"java/lang/StringUTF16", "newBytesLength", "(I)I"⟩ : MethodName)) hown (mvT hZ (w67 hw)) (mvT hZ (w68 hw)) (mvT hZ (w22 hw)) (mvT hZ (w69 hw)) (by decide) (backOf (W := 0) (rm_nbl2 l Z a0 hw []  h0 n0 (Nat.le_trans Z0 (Nat.le_refl _)) ) hZ (w69 hw) (w22 hw) (by decide) (by decide)) (g := (mkF m 1 #[iv 2] [(.int 2)])) rfl (by rw [hml]; rfl) (argsL := [(.int 2)]) (rest := []) (lenOf pd_1 rfl) rfl (by show 2 * 0 + _ ≤ _; exact Nat.le_of_eq rfl) (hb hby d5_1) (fun _ _ => ⟨rfl, e0, (by decide : 0 + 0 ≤ _), (by decide : 0 + 0 ≤ _)⟩)
  dsimp only [Pt.U, Pt.locs, Pt.cells, Pt.slots] at X1 lq1 yq1 zq1 st1 hQ1
  subst lq1 yq1 zq1
  obtain ⟨h1, e1⟩ : ∃ z, T1.heap = z := ⟨_, rfl⟩
  rw [e1] at hQ1
  obtain ⟨rfl, N1q, he1⟩ := hQ1
  have N1 := Fr.app N0 N1q
  rw [he1] at e1
  refine go_st st1 ?_
  show Go _ _ _ _ (T1.setTop (mkF m 4 #[iv 2] [(.int 4)]))
  obtain ⟨T2, h2, kc2, X2, e2, E2, A2, st2⟩ := newP X1 hx hZ (aty := .byte) (w24 hw) e1 (g := (mkF m 4 #[iv 2] [(.int 4)])) rfl (hb hby d5_4) rfl (by decide) (cap := 4) (by decide) (by decide) (by decide) (by decide)
  obtain ⟨b2, gq2⟩ : ∃ z, z = h0.size := ⟨_, rfl⟩
  rw [← gq2] at A2 st2
  have f3 : Arv Z h2 b2 kc2 .byte (4 : Int32) [(.int 0), (.int 0), (.int 0), (.int 0)] (.int 0) := (Arv.new A2 (by decide)).pad (pad_rep [] (.int 0) 4)
  refine go_st (fun t k => st2 t k) ?_
  show Go _ _ _ _ (T2.setTop (mkF m 6 #[iv 2] [(.ref b2)]))
  have g_b2 : n0 ≤ b2 := Nat.le_trans (Nat.le_trans Z0 (Nat.le_refl _)) (Nat.le_of_eq gq2.symm)
  have ke4 : Keep h0 h2 [] := (Keep.ext (Keep.refl h0 []) E2)
  obtain ⟨fs, hr, hrun, hended, hW, hsame⟩ := X2.leave (v := some (.ref b2)) (fun h => by rw [Bd.returns] at h; cases h)
  refine ⟨_, _, ?_, hrun, hended, _, _, rfl, ?_, ⟨_, rfl⟩, hW, hsame.mono (by decide) (by decide)⟩
  · exact retOut X2 hx Bd.returns rfl (Or.inr (Or.inr (Or.inr (Or.inr ⟨rfl, rfl, rfl⟩)))) (hb hby d5_6) hr
  · show Q_nbf2 _ _ _ _ T2.heap _
    rw [e2]
    exact ⟨b2, kc2, rfl, N1, ke4, g_b2, (Nat.le_of_eq gq2.symm), f3⟩
def Q_put20 (Z : State) (ab : Addr) (kb : ClassId) (cc : Int32) (y0 : Int32) (y1 : Int32) (y2 : Int32) (y3 : Int32) (h0 : Heap) (n0 : Nat) (vR : Option Value) (h : Heap) (L : List Loc) : Prop := vR = none ∧ Fr n0 L ∧ Keep h0 h [ab] ∧ (Arv Z h ab kb .byte (4 : Int32) [(.int (nar .byte (((cc >>> ((0 : Int32) &&& 31))).toInt8.toInt32))), (.int (nar .byte (((cc >>> ((8 : Int32) &&& 31))).toInt8.toInt32))), (.int y2), (.int y3)] (.int (0 : Int32)))
theorem ef_put20 (m : MethodId) (x0 : Addr) (x1 : Int32) (x2 : Int32) : entryFrame m #[(.ref x0), (.int x1), (.int x2)] 3 = mkF m 0 #[.val (.ref x0), .val (.int x1), .val (.int x2)] [] := by first | (simp [entryFrame, mkF, argsToLocals, Value.category]; done) | rfl
set_option maxRecDepth 65536 in
set_option maxHeartbeats 40000000 in
theorem rm_put20 (l : Launch) (Z : State) (a0 : Array Value) (hw : ∀ d ∈ tables_1, d.before a0 Z = true) (ws : List Jvm.Cond) (ab : Addr) (kb : ClassId) (cc : Int32) (y0 : Int32) (y1 : Int32) (y2 : Int32) (y3 : Int32) (h0 : Heap) (n0 : Nat) (Z0 : n0 ≤ h0.size) (H0 : Arv Z h0 ab kb .byte (4 : Int32) [(.int y0), (.int y1), (.int y2), (.int y3)] (.int (0 : Int32))) (g_ab : n0 ≤ ab) (AD : Sta Z Z.heap "java/lang/StringUTF16" "$assertionsDisabled" "Z" (.int (1 : Int32))) (HB : Sta Z Z.heap "java/lang/StringUTF16" "HI_BYTE_SHIFT" "I" (.int (0 : Int32))) (LB : Sta Z Z.heap "java/lang/StringUTF16" "LO_BYTE_SHIFT" "I" (.int (8 : Int32))) (O0 : Old Z n0 h0) :
    MetFree l (⟨"java/lang/StringUTF16", "putChar", "([BII)V"⟩ : MethodName) (head1 (Jvm.Cond.code (⟨"java/lang/StringUTF16", "putChar", "([BII)V"⟩ : MethodName) jdk_52_method_4_code 3 none :: ws) ({ frames := 0, cells := 0, slots := 0, locals := 0 } : Room)) (fun a U => a = #[(.ref ab), (.int 0), (.int cc)] ∧ Z.Warmed39 U.vm ∧ U.heap = h0) (fun _ _ _ _ _ => True) (fun _ U o U' => ∃ v L, o = .returned v ∧ Q_put20 Z ab kb cc y0 y1 y2 y3 h0 n0 v U'.heap L ∧ FrameEnd U o U' L ({ frames := 0, cells := 0, slots := 0, locals := 0 } : Room).cells ({ frames := 0, cells := 0, slots := 0, locals := 0 } : Room).slots) := by
  refine MetFree.of_bodySF (plainFor_of_name pn_java_lang_StringUTF16) hisR ?_
  intro p e s m args below meth c s₁ Bd hml0 hP hK
  obtain ⟨rfl, hZ, hh⟩ := hP
  have hx := Bd.exec
  have hby := Bd.bytes
  have hml : c.maxLocals = 3 := hml0
  have hown : s.vm.findClass "java/lang/StringUTF16" = some m.cls := findClass_of_methodNamed Bd.named
  have hnm := (name_of_methodNamed Bd.named Bd.method).1
  have X0 : Stand p l e ({ frames := 0, cells := 0, slots := 0, locals := 0 } : Room) s m #[(.ref ab), (.int 0), (.int cc)] below meth c s₁ [] 0 0 := Stand.of_body Bd
  have e0 : s₁.heap = h0 := by rw [← hh, Bd.state]; rfl
  have N0 := Fr.nil n0
  refine go_st (fun t k => castTop (ef_put20 m ab (0 : Int32) cc) k) ?_
  show Go _ _ _ _ (s₁.setTop (mkF m 0 #[rv ab, iv 0, iv cc] []))
  obtain ⟨T1, X1, e1, st1⟩ := getS2 X0 hx hZ hown (host := "") (Or.inl (w74 hw)) Via.refl e0 (Sta.ext O0.2 AD) (g := (mkF m 0 #[rv ab, iv 0, iv cc] [])) rfl (hb hby d6_0)
  refine go_st (fun t k => st1 t k) ?_
  show Go _ _ _ _ (T1.setTop (mkF m 3 #[rv ab, iv 0, iv cc] [(.int 1)]))
  refine go_st (fun t k => XS.ifYes X1.here hx rfl (pc0 := 3) (pc' := 28) rfl (hb hby d6_3) rfl ((if0 _ _).trans (feq ((by decide) : ¬ ((1 : Int32) = (0 : Int32)))).2) (by decide) (by decide) k) ?_
  show Go _ _ _ _ (T1.setTop (mkF m 28 #[rv ab, iv 0, iv cc] []))
  refine go_st (fun t k => XS.iloadN X1.here hx rfl (hb hby d6_28) rfl k) ?_
  show Go _ _ _ _ (T1.setTop (mkF m 29 #[rv ab, iv 0, iv cc] [(.int 0)]))
  refine go_st (fun t k => XS.iconst X1.here hx rfl (hb hby d6_29) k) ?_
  show Go _ _ _ _ (T1.setTop (mkF m 30 #[rv ab, iv 0, iv cc] [(.int 1), (.int 0)]))
  refine go_st (fun t k => XS.ishl X1.here hx rfl (hb hby d6_30) rfl k) ?_
  rw [show ((0 : Int32) <<< ((1 : Int32) &&& 31)) = (0 : Int32) from by decide]
  show Go _ _ _ _ (T1.setTop (mkF m 31 #[rv ab, iv 0, iv cc] [(.int 0)]))
  refine go_st (fun t k => XS.istoreN X1.here hx rfl (hb hby d6_31) rfl (l' := #[rv ab, iv 0, iv cc]) rfl k) ?_
  show Go _ _ _ _ (T1.setTop (mkF m 32 #[rv ab, iv 0, iv cc] []))
  refine go_st (fun t k => XS.aloadN X1.here hx rfl (hb hby d6_32) rfl rfl k) ?_
  show Go _ _ _ _ (T1.setTop (mkF m 33 #[rv ab, iv 0, iv cc] [(.ref ab)]))
  refine go_st (fun t k => XS.iloadN X1.here hx rfl (hb hby d6_33) rfl k) ?_
  show Go _ _ _ _ (T1.setTop (mkF m 34 #[rv ab, iv 0, iv cc] [(.int 0), (.ref ab)]))
  refine go_st (fun t k => XS.iinc X1.here hx rfl (hb hby d6_34) rfl (l' := #[rv ab, iv ((0 : Int32) + (1 : Int32)), iv cc]) rfl k) ?_
  rw [show ((0 : Int32) + (1 : Int32)) = (1 : Int32) from by decide]
  show Go _ _ _ _ (T1.setTop (mkF m 37 #[rv ab, iv 1, iv cc] [(.int 0), (.ref ab)]))
  refine go_st (fun t k => XS.iloadN X1.here hx rfl (hb hby d6_37) rfl k) ?_
  show Go _ _ _ _ (T1.setTop (mkF m 38 #[rv ab, iv 1, iv cc] [(.int cc), (.int 0), (.ref ab)]))
  obtain ⟨T2, X2, e2, st2⟩ := getS2 X1 hx hZ hown (host := "") (Or.inl (w75 hw)) Via.refl e1 (Sta.ext O0.2 HB) (g := (mkF m 38 #[rv ab, iv 1, iv cc] [(.int cc), (.int 0), (.ref ab)])) rfl (hb hby d6_38)
  refine go_st (fun t k => st2 t k) ?_
  show Go _ _ _ _ (T2.setTop (mkF m 41 #[rv ab, iv 1, iv cc] [(.int 0), (.int cc), (.int 0), (.ref ab)]))
  refine go_st (fun t k => XS.ishr X2.here hx rfl (hb hby d6_41) rfl k) ?_
  show Go _ _ _ _ (T2.setTop (mkF m 42 #[rv ab, iv 1, iv cc] [(.int (cc >>> ((0 : Int32) &&& 31))), (.int 0), (.ref ab)]))
  refine go_st (fun t k => XS.i2b X2.here hx rfl (hb hby d6_42) rfl k) ?_
  show Go _ _ _ _ (T2.setTop (mkF m 43 #[rv ab, iv 1, iv cc] [(.int (((cc >>> ((0 : Int32) &&& 31))).toInt8.toInt32)), (.int 0), (.ref ab)]))
  obtain ⟨zc3, zA3, zq3, zS3, zN3, zH3, zG3⟩ := id H0
  have hin3 : ¬ ((0 : Int32) < 0 ∨ zc3.slots.size ≤ ((0 : Int32)).toNatClampNeg) := inb_of zS3 ⟨by decide, by decide⟩
  obtain ⟨T3, h3, X3, e3, W3, st3⟩ := stB X2 hx hZ e2 zA3 (j := (0 : Int32)) hin3 (g := (mkF m 43 #[rv ab, iv 1, iv cc] [(.int (((cc >>> ((0 : Int32) &&& 31))).toInt8.toInt32)), (.int 0), (.ref ab)])) rfl rfl (hb hby d6_43)
  have N3 := Fr.snoc X3 N0 g_ab
  have f4 : Arv Z h3 ab kb .byte (4 : Int32) [(.int (nar .byte (((cc >>> ((0 : Int32) &&& 31))).toInt8.toInt32))), (.int y1), (.int y2), (.int y3)] (.int (0 : Int32)) := Arv.set zA3 zq3 zS3 zN3 zH3 zG3 (fits_nar_byte _) W3 0 rfl (Nat.le_of_ble_eq_true rfl)
  refine go_st (fun t k => st3 t k) ?_
  show Go _ _ _ _ (T3.setTop (mkF m 44 #[rv ab, iv 1, iv cc] []))
  refine go_st (fun t k => XS.aloadN X3.here hx rfl (hb hby d6_44) rfl rfl k) ?_
  show Go _ _ _ _ (T3.setTop (mkF m 45 #[rv ab, iv 1, iv cc] [(.ref ab)]))
  refine go_st (fun t k => XS.iloadN X3.here hx rfl (hb hby d6_45) rfl k) ?_
  show Go _ _ _ _ (T3.setTop (mkF m 46 #[rv ab, iv 1, iv cc] [(.int 1), (.ref ab)]))
  refine go_st (fun t k => XS.iloadN X3.here hx rfl (hb hby d6_46) rfl k) ?_
  show Go _ _ _ _ (T3.setTop (mkF m 47 #[rv ab, iv 1, iv cc] [(.int cc), (.int 1), (.ref ab)]))
  have oe6 : Old Z n0 h3 := (Old.wr O0 W3 g_ab)
  obtain ⟨T5, X5, e5, st5⟩ := getS2 X3 hx hZ hown (host := "") (Or.inl (w76 hw)) Via.refl e3 (Sta.ext oe6.2 LB) (g := (mkF m 47 #[rv ab, iv 1, iv cc] [(.int cc), (.int 1), (.ref ab)])) rfl (hb hby d6_47)
  refine go_st (fun t k => st5 t k) ?_
  show Go _ _ _ _ (T5.setTop (mkF m 50 #[rv ab, iv 1, iv cc] [(.int 8), (.int cc), (.int 1), (.ref ab)]))
  refine go_st (fun t k => XS.ishr X5.here hx rfl (hb hby d6_50) rfl k) ?_
  show Go _ _ _ _ (T5.setTop (mkF m 51 #[rv ab, iv 1, iv cc] [(.int (cc >>> ((8 : Int32) &&& 31))), (.int 1), (.ref ab)]))
  refine go_st (fun t k => XS.i2b X5.here hx rfl (hb hby d6_51) rfl k) ?_
  show Go _ _ _ _ (T5.setTop (mkF m 52 #[rv ab, iv 1, iv cc] [(.int (((cc >>> ((8 : Int32) &&& 31))).toInt8.toInt32)), (.int 1), (.ref ab)]))
  obtain ⟨zc7, zA7, zq7, zS7, zN7, zH7, zG7⟩ := id f4
  have hin7 : ¬ ((1 : Int32) < 0 ∨ zc7.slots.size ≤ ((1 : Int32)).toNatClampNeg) := inb_of zS7 ⟨by decide, by decide⟩
  obtain ⟨T7, h7, X7, e7, W7, st7⟩ := stB X5 hx hZ e5 zA7 (j := (1 : Int32)) hin7 (g := (mkF m 52 #[rv ab, iv 1, iv cc] [(.int (((cc >>> ((8 : Int32) &&& 31))).toInt8.toInt32)), (.int 1), (.ref ab)])) rfl rfl (hb hby d6_52)
  have N7 := Fr.snoc X7 N3 g_ab
  have f8 : Arv Z h7 ab kb .byte (4 : Int32) [(.int (nar .byte (((cc >>> ((0 : Int32) &&& 31))).toInt8.toInt32))), (.int (nar .byte (((cc >>> ((8 : Int32) &&& 31))).toInt8.toInt32))), (.int y2), (.int y3)] (.int (0 : Int32)) := Arv.set zA7 zq7 zS7 zN7 zH7 zG7 (fits_nar_byte _) W7 1 rfl (Nat.le_of_ble_eq_true rfl)
  refine go_st (fun t k => st7 t k) ?_
  show Go _ _ _ _ (T7.setTop (mkF m 53 #[rv ab, iv 1, iv cc] []))
  have ke9 : Keep h0 h3 [ab] := (Keep.wr (Keep.refl h0 [ab]) W3 (Or.inl (List.mem_of_getElem? (i := 0) rfl)))
  have ke10 : Keep h0 h7 [ab] := (Keep.wr ke9 W7 (Or.inl (List.mem_of_getElem? (i := 0) rfl)))
  obtain ⟨fs, hr, hrun, hended, hW, hsame⟩ := X7.leave (v := none) (fun _ => rfl)
  refine ⟨_, _, ?_, hrun, hended, _, _, rfl, ?_, ⟨_, rfl⟩, hW, hsame.mono (by decide) (by decide)⟩
  · exact X7.returnOut hx Bd.returns (hb hby d6_53) hr
  · show Q_put20 _ _ _ _ _ _ _ _ _ _ _ T7.heap _
    rw [e7]
    exact ⟨rfl, N7, ke10, f8⟩
def Q_put21 (Z : State) (ab : Addr) (kb : ClassId) (cc : Int32) (y0 : Int32) (y1 : Int32) (y2 : Int32) (y3 : Int32) (h0 : Heap) (n0 : Nat) (vR : Option Value) (h : Heap) (L : List Loc) : Prop := vR = none ∧ Fr n0 L ∧ Keep h0 h [ab] ∧ (Arv Z h ab kb .byte (4 : Int32) [(.int y0), (.int y1), (.int (nar .byte (((cc >>> ((0 : Int32) &&& 31))).toInt8.toInt32))), (.int (nar .byte (((cc >>> ((8 : Int32) &&& 31))).toInt8.toInt32)))] (.int (0 : Int32)))
theorem ef_put21 (m : MethodId) (x0 : Addr) (x1 : Int32) (x2 : Int32) : entryFrame m #[(.ref x0), (.int x1), (.int x2)] 3 = mkF m 0 #[.val (.ref x0), .val (.int x1), .val (.int x2)] [] := by first | (simp [entryFrame, mkF, argsToLocals, Value.category]; done) | rfl
set_option maxRecDepth 65536 in
set_option maxHeartbeats 40000000 in
theorem rm_put21 (l : Launch) (Z : State) (a0 : Array Value) (hw : ∀ d ∈ tables_1, d.before a0 Z = true) (ws : List Jvm.Cond) (ab : Addr) (kb : ClassId) (cc : Int32) (y0 : Int32) (y1 : Int32) (y2 : Int32) (y3 : Int32) (h0 : Heap) (n0 : Nat) (Z0 : n0 ≤ h0.size) (H0 : Arv Z h0 ab kb .byte (4 : Int32) [(.int y0), (.int y1), (.int y2), (.int y3)] (.int (0 : Int32))) (g_ab : n0 ≤ ab) (AD : Sta Z Z.heap "java/lang/StringUTF16" "$assertionsDisabled" "Z" (.int (1 : Int32))) (HB : Sta Z Z.heap "java/lang/StringUTF16" "HI_BYTE_SHIFT" "I" (.int (0 : Int32))) (LB : Sta Z Z.heap "java/lang/StringUTF16" "LO_BYTE_SHIFT" "I" (.int (8 : Int32))) (O0 : Old Z n0 h0) :
    MetFree l (⟨"java/lang/StringUTF16", "putChar", "([BII)V"⟩ : MethodName) (head1 (Jvm.Cond.code (⟨"java/lang/StringUTF16", "putChar", "([BII)V"⟩ : MethodName) jdk_52_method_4_code 3 none :: ws) ({ frames := 0, cells := 0, slots := 0, locals := 0 } : Room)) (fun a U => a = #[(.ref ab), (.int 1), (.int cc)] ∧ Z.Warmed39 U.vm ∧ U.heap = h0) (fun _ _ _ _ _ => True) (fun _ U o U' => ∃ v L, o = .returned v ∧ Q_put21 Z ab kb cc y0 y1 y2 y3 h0 n0 v U'.heap L ∧ FrameEnd U o U' L ({ frames := 0, cells := 0, slots := 0, locals := 0 } : Room).cells ({ frames := 0, cells := 0, slots := 0, locals := 0 } : Room).slots) := by
  refine MetFree.of_bodySF (plainFor_of_name pn_java_lang_StringUTF16) hisR ?_
  intro p e s m args below meth c s₁ Bd hml0 hP hK
  obtain ⟨rfl, hZ, hh⟩ := hP
  have hx := Bd.exec
  have hby := Bd.bytes
  have hml : c.maxLocals = 3 := hml0
  have hown : s.vm.findClass "java/lang/StringUTF16" = some m.cls := findClass_of_methodNamed Bd.named
  have hnm := (name_of_methodNamed Bd.named Bd.method).1
  have X0 : Stand p l e ({ frames := 0, cells := 0, slots := 0, locals := 0 } : Room) s m #[(.ref ab), (.int 1), (.int cc)] below meth c s₁ [] 0 0 := Stand.of_body Bd
  have e0 : s₁.heap = h0 := by rw [← hh, Bd.state]; rfl
  have N0 := Fr.nil n0
  refine go_st (fun t k => castTop (ef_put21 m ab (1 : Int32) cc) k) ?_
  show Go _ _ _ _ (s₁.setTop (mkF m 0 #[rv ab, iv 1, iv cc] []))
  obtain ⟨T1, X1, e1, st1⟩ := getS2 X0 hx hZ hown (host := "") (Or.inl (w74 hw)) Via.refl e0 (Sta.ext O0.2 AD) (g := (mkF m 0 #[rv ab, iv 1, iv cc] [])) rfl (hb hby d6_0)
  refine go_st (fun t k => st1 t k) ?_
  show Go _ _ _ _ (T1.setTop (mkF m 3 #[rv ab, iv 1, iv cc] [(.int 1)]))
  refine go_st (fun t k => XS.ifYes X1.here hx rfl (pc0 := 3) (pc' := 28) rfl (hb hby d6_3) rfl ((if0 _ _).trans (feq ((by decide) : ¬ ((1 : Int32) = (0 : Int32)))).2) (by decide) (by decide) k) ?_
  show Go _ _ _ _ (T1.setTop (mkF m 28 #[rv ab, iv 1, iv cc] []))
  refine go_st (fun t k => XS.iloadN X1.here hx rfl (hb hby d6_28) rfl k) ?_
  show Go _ _ _ _ (T1.setTop (mkF m 29 #[rv ab, iv 1, iv cc] [(.int 1)]))
  refine go_st (fun t k => XS.iconst X1.here hx rfl (hb hby d6_29) k) ?_
  show Go _ _ _ _ (T1.setTop (mkF m 30 #[rv ab, iv 1, iv cc] [(.int 1), (.int 1)]))
  refine go_st (fun t k => XS.ishl X1.here hx rfl (hb hby d6_30) rfl k) ?_
  rw [show ((1 : Int32) <<< ((1 : Int32) &&& 31)) = (2 : Int32) from by decide]
  show Go _ _ _ _ (T1.setTop (mkF m 31 #[rv ab, iv 1, iv cc] [(.int 2)]))
  refine go_st (fun t k => XS.istoreN X1.here hx rfl (hb hby d6_31) rfl (l' := #[rv ab, iv 2, iv cc]) rfl k) ?_
  show Go _ _ _ _ (T1.setTop (mkF m 32 #[rv ab, iv 2, iv cc] []))
  refine go_st (fun t k => XS.aloadN X1.here hx rfl (hb hby d6_32) rfl rfl k) ?_
  show Go _ _ _ _ (T1.setTop (mkF m 33 #[rv ab, iv 2, iv cc] [(.ref ab)]))
  refine go_st (fun t k => XS.iloadN X1.here hx rfl (hb hby d6_33) rfl k) ?_
  show Go _ _ _ _ (T1.setTop (mkF m 34 #[rv ab, iv 2, iv cc] [(.int 2), (.ref ab)]))
  refine go_st (fun t k => XS.iinc X1.here hx rfl (hb hby d6_34) rfl (l' := #[rv ab, iv ((2 : Int32) + (1 : Int32)), iv cc]) rfl k) ?_
  rw [show ((2 : Int32) + (1 : Int32)) = (3 : Int32) from by decide]
  show Go _ _ _ _ (T1.setTop (mkF m 37 #[rv ab, iv 3, iv cc] [(.int 2), (.ref ab)]))
  refine go_st (fun t k => XS.iloadN X1.here hx rfl (hb hby d6_37) rfl k) ?_
  show Go _ _ _ _ (T1.setTop (mkF m 38 #[rv ab, iv 3, iv cc] [(.int cc), (.int 2), (.ref ab)]))
  obtain ⟨T2, X2, e2, st2⟩ := getS2 X1 hx hZ hown (host := "") (Or.inl (w75 hw)) Via.refl e1 (Sta.ext O0.2 HB) (g := (mkF m 38 #[rv ab, iv 3, iv cc] [(.int cc), (.int 2), (.ref ab)])) rfl (hb hby d6_38)
  refine go_st (fun t k => st2 t k) ?_
  show Go _ _ _ _ (T2.setTop (mkF m 41 #[rv ab, iv 3, iv cc] [(.int 0), (.int cc), (.int 2), (.ref ab)]))
  refine go_st (fun t k => XS.ishr X2.here hx rfl (hb hby d6_41) rfl k) ?_
  show Go _ _ _ _ (T2.setTop (mkF m 42 #[rv ab, iv 3, iv cc] [(.int (cc >>> ((0 : Int32) &&& 31))), (.int 2), (.ref ab)]))
  refine go_st (fun t k => XS.i2b X2.here hx rfl (hb hby d6_42) rfl k) ?_
  show Go _ _ _ _ (T2.setTop (mkF m 43 #[rv ab, iv 3, iv cc] [(.int (((cc >>> ((0 : Int32) &&& 31))).toInt8.toInt32)), (.int 2), (.ref ab)]))
  obtain ⟨zc3, zA3, zq3, zS3, zN3, zH3, zG3⟩ := id H0
  have hin3 : ¬ ((2 : Int32) < 0 ∨ zc3.slots.size ≤ ((2 : Int32)).toNatClampNeg) := inb_of zS3 ⟨by decide, by decide⟩
  obtain ⟨T3, h3, X3, e3, W3, st3⟩ := stB X2 hx hZ e2 zA3 (j := (2 : Int32)) hin3 (g := (mkF m 43 #[rv ab, iv 3, iv cc] [(.int (((cc >>> ((0 : Int32) &&& 31))).toInt8.toInt32)), (.int 2), (.ref ab)])) rfl rfl (hb hby d6_43)
  have N3 := Fr.snoc X3 N0 g_ab
  have f4 : Arv Z h3 ab kb .byte (4 : Int32) [(.int y0), (.int y1), (.int (nar .byte (((cc >>> ((0 : Int32) &&& 31))).toInt8.toInt32))), (.int y3)] (.int (0 : Int32)) := Arv.set zA3 zq3 zS3 zN3 zH3 zG3 (fits_nar_byte _) W3 2 rfl (Nat.le_of_ble_eq_true rfl)
  refine go_st (fun t k => st3 t k) ?_
  show Go _ _ _ _ (T3.setTop (mkF m 44 #[rv ab, iv 3, iv cc] []))
  refine go_st (fun t k => XS.aloadN X3.here hx rfl (hb hby d6_44) rfl rfl k) ?_
  show Go _ _ _ _ (T3.setTop (mkF m 45 #[rv ab, iv 3, iv cc] [(.ref ab)]))
  refine go_st (fun t k => XS.iloadN X3.here hx rfl (hb hby d6_45) rfl k) ?_
  show Go _ _ _ _ (T3.setTop (mkF m 46 #[rv ab, iv 3, iv cc] [(.int 3), (.ref ab)]))
  refine go_st (fun t k => XS.iloadN X3.here hx rfl (hb hby d6_46) rfl k) ?_
  show Go _ _ _ _ (T3.setTop (mkF m 47 #[rv ab, iv 3, iv cc] [(.int cc), (.int 3), (.ref ab)]))
  have oe6 : Old Z n0 h3 := (Old.wr O0 W3 g_ab)
  obtain ⟨T5, X5, e5, st5⟩ := getS2 X3 hx hZ hown (host := "") (Or.inl (w76 hw)) Via.refl e3 (Sta.ext oe6.2 LB) (g := (mkF m 47 #[rv ab, iv 3, iv cc] [(.int cc), (.int 3), (.ref ab)])) rfl (hb hby d6_47)
  refine go_st (fun t k => st5 t k) ?_
  show Go _ _ _ _ (T5.setTop (mkF m 50 #[rv ab, iv 3, iv cc] [(.int 8), (.int cc), (.int 3), (.ref ab)]))
  refine go_st (fun t k => XS.ishr X5.here hx rfl (hb hby d6_50) rfl k) ?_
  show Go _ _ _ _ (T5.setTop (mkF m 51 #[rv ab, iv 3, iv cc] [(.int (cc >>> ((8 : Int32) &&& 31))), (.int 3), (.ref ab)]))
  refine go_st (fun t k => XS.i2b X5.here hx rfl (hb hby d6_51) rfl k) ?_
  show Go _ _ _ _ (T5.setTop (mkF m 52 #[rv ab, iv 3, iv cc] [(.int (((cc >>> ((8 : Int32) &&& 31))).toInt8.toInt32)), (.int 3), (.ref ab)]))
  obtain ⟨zc7, zA7, zq7, zS7, zN7, zH7, zG7⟩ := id f4
  have hin7 : ¬ ((3 : Int32) < 0 ∨ zc7.slots.size ≤ ((3 : Int32)).toNatClampNeg) := inb_of zS7 ⟨by decide, by decide⟩
  obtain ⟨T7, h7, X7, e7, W7, st7⟩ := stB X5 hx hZ e5 zA7 (j := (3 : Int32)) hin7 (g := (mkF m 52 #[rv ab, iv 3, iv cc] [(.int (((cc >>> ((8 : Int32) &&& 31))).toInt8.toInt32)), (.int 3), (.ref ab)])) rfl rfl (hb hby d6_52)
  have N7 := Fr.snoc X7 N3 g_ab
  have f8 : Arv Z h7 ab kb .byte (4 : Int32) [(.int y0), (.int y1), (.int (nar .byte (((cc >>> ((0 : Int32) &&& 31))).toInt8.toInt32))), (.int (nar .byte (((cc >>> ((8 : Int32) &&& 31))).toInt8.toInt32)))] (.int (0 : Int32)) := Arv.set zA7 zq7 zS7 zN7 zH7 zG7 (fits_nar_byte _) W7 3 rfl (Nat.le_of_ble_eq_true rfl)
  refine go_st (fun t k => st7 t k) ?_
  show Go _ _ _ _ (T7.setTop (mkF m 53 #[rv ab, iv 3, iv cc] []))
  have ke9 : Keep h0 h3 [ab] := (Keep.wr (Keep.refl h0 [ab]) W3 (Or.inl (List.mem_of_getElem? (i := 0) rfl)))
  have ke10 : Keep h0 h7 [ab] := (Keep.wr ke9 W7 (Or.inl (List.mem_of_getElem? (i := 0) rfl)))
  obtain ⟨fs, hr, hrun, hended, hW, hsame⟩ := X7.leave (v := none) (fun _ => rfl)
  refine ⟨_, _, ?_, hrun, hended, _, _, rfl, ?_, ⟨_, rfl⟩, hW, hsame.mono (by decide) (by decide)⟩
  · exact X7.returnOut hx Bd.returns (hb hby d6_53) hr
  · show Q_put21 _ _ _ _ _ _ _ _ _ _ _ T7.heap _
    rw [e7]
    exact ⟨rfl, N7, ke10, f8⟩
def Q_tob2 (Z : State) (ac : Addr) (kc : ClassId) (c0 : Int32) (c1 : Int32) (h0 : Heap) (n0 : Nat) (vR : Option Value) (h : Heap) (L : List Loc) : Prop := ∃ (t : Addr) (kb : ClassId), vR = some (.ref t) ∧ Fr n0 L ∧ Keep h0 h [] ∧ n0 ≤ t ∧ h0.size ≤ t ∧ (Arv Z h t kb .byte (4 : Int32) [(.int (nar .byte (((c0 >>> ((0 : Int32) &&& 31))).toInt8.toInt32))), (.int (nar .byte (((c0 >>> ((8 : Int32) &&& 31))).toInt8.toInt32))), (.int (nar .byte (((c1 >>> ((0 : Int32) &&& 31))).toInt8.toInt32))), (.int (nar .byte (((c1 >>> ((8 : Int32) &&& 31))).toInt8.toInt32)))] (.int (0 : Int32)))
theorem ef_tob2 (m : MethodId) (x0 : Addr) (x1 : Int32) (x2 : Int32) : entryFrame m #[(.ref x0), (.int x1), (.int x2)] 5 = mkF m 0 #[.val (.ref x0), .val (.int x1), .val (.int x2), .unset, .unset] [] := by first | (simp [entryFrame, mkF, argsToLocals, Value.category]; done) | rfl
set_option maxRecDepth 65536 in
set_option maxHeartbeats 40000000 in
theorem rm_tob2 (l : Launch) (Z : State) (a0 : Array Value) (hw : ∀ d ∈ tables_1, d.before a0 Z = true) (ws : List Jvm.Cond) (ac : Addr) (kc : ClassId) (c0 : Int32) (c1 : Int32) (h0 : Heap) (n0 : Nat) (Z0 : n0 ≤ h0.size) (H0 : Arv Z h0 ac kc .char (2 : Int32) [(.int c0), (.int c1)] (.int (0 : Int32))) (AD : Sta Z Z.heap "java/lang/StringUTF16" "$assertionsDisabled" "Z" (.int (1 : Int32))) (HB : Sta Z Z.heap "java/lang/StringUTF16" "HI_BYTE_SHIFT" "I" (.int (0 : Int32))) (LB : Sta Z Z.heap "java/lang/StringUTF16" "LO_BYTE_SHIFT" "I" (.int (8 : Int32))) (O0 : Old Z n0 h0) :
    MetFree l (⟨"java/lang/StringUTF16", "toBytes", "([CII)[B"⟩ : MethodName) (head1 (Jvm.Cond.code (⟨"java/lang/StringUTF16", "toBytes", "([CII)[B"⟩ : MethodName) jdk_52_method_14_code 5 (some (.array .byte)) :: ws) ({ frames := 2, cells := 1, slots := 4, locals := 24 } : Room)) (fun a U => a = #[(.ref ac), (.int 0), (.int 2)] ∧ Z.Warmed39 U.vm ∧ U.heap = h0) (fun _ _ _ _ _ => True) (fun _ U o U' => ∃ v L, o = .returned v ∧ Q_tob2 Z ac kc c0 c1 h0 n0 v U'.heap L ∧ FrameEnd U o U' L ({ frames := 2, cells := 1, slots := 4, locals := 24 } : Room).cells ({ frames := 2, cells := 1, slots := 4, locals := 24 } : Room).slots) := by
  refine MetFree.of_bodySF (plainFor_of_name pn_java_lang_StringUTF16) hisR ?_
  intro p e s m args below meth c s₁ Bd hml0 hP hK
  obtain ⟨rfl, hZ, hh⟩ := hP
  have hx := Bd.exec
  have hby := Bd.bytes
  have hml : c.maxLocals = 5 := hml0
  have hown : s.vm.findClass "java/lang/StringUTF16" = some m.cls := findClass_of_methodNamed Bd.named
  have hnm := (name_of_methodNamed Bd.named Bd.method).1
  have X0 : Stand p l e ({ frames := 2, cells := 1, slots := 4, locals := 24 } : Room) s m #[(.ref ac), (.int 0), (.int 2)] below meth c s₁ [] 0 0 := Stand.of_body Bd
  have e0 : s₁.heap = h0 := by rw [← hh, Bd.state]; rfl
  have N0 := Fr.nil n0
  refine go_st (fun t k => castTop (ef_tob2 m ac (0 : Int32) (2 : Int32)) k) ?_
  show Go _ _ _ _ (s₁.setTop (mkF m 0 #[rv ac, iv 0, iv 2, .unset, .unset] []))
  refine go_st (fun t k => XS.iloadN X0.here hx rfl (hb hby d7_0) rfl k) ?_
  show Go _ _ _ _ (s₁.setTop (mkF m 1 #[rv ac, iv 0, iv 2, .unset, .unset] [(.int 2)]))
  obtain ⟨_, _, ⟨T1, L1, kk1, nn1⟩, -, X1, ⟨Lc1, hQ1, lq1, yq1, zq1⟩, st1⟩ := Jvm.LawKit.callS X0 hx (y := (⟨"java/lang/StringUTF16", "newBytesFor", "(I)[B"⟩ : MethodName)) hown (mvT hZ (w64 hw)) (mvT hZ (w65 hw)) (mvT hZ (w22 hw)) (mvT hZ (w66 hw)) (by decide) (backOf (W := 0) (rm_nbf2 l Z a0 hw []  h0 n0 (Nat.le_trans Z0 (Nat.le_refl _)) ) hZ (w66 hw) (w22 hw) (by decide) (by decide)) (g := (mkF m 1 #[rv ac, iv 0, iv 2, .unset, .unset] [(.int 2)])) rfl (by rw [hml]; rfl) (argsL := [(.int 2)]) (rest := []) (lenOf pd_2 rfl) rfl (by show 2 * 0 + _ ≤ _; exact Nat.le_of_eq rfl) (hb hby d7_1) (fun _ _ => ⟨rfl, e0, (by decide : 0 + 1 ≤ _), (by decide : 0 + 4 ≤ _)⟩)
  dsimp only [Pt.U, Pt.locs, Pt.cells, Pt.slots] at X1 lq1 yq1 zq1 st1 hQ1
  subst lq1 yq1 zq1
  obtain ⟨h1, e1⟩ : ∃ z, T1.heap = z := ⟨_, rfl⟩
  rw [e1] at hQ1
  obtain ⟨t_1, kb_1, rfl, N1q, K1, gf1_0, lf1_0, p1_1⟩ := hQ1
  have N1 := Fr.app N0 N1q
  refine go_st st1 ?_
  show Go _ _ _ _ (T1.setTop (mkF m 4 #[rv ac, iv 0, iv 2, .unset, .unset] [(.ref t_1)]))
  refine go_st (fun t k => XS.astoreN X1.here hx rfl (hb hby d7_4) rfl rfl (l' := #[rv ac, iv 0, iv 2, rv t_1, .unset]) rfl k) ?_
  show Go _ _ _ _ (T1.setTop (mkF m 5 #[rv ac, iv 0, iv 2, rv t_1, .unset] []))
  refine go_st (fun t k => XS.iconst X1.here hx rfl (hb hby d7_5) k) ?_
  show Go _ _ _ _ (T1.setTop (mkF m 6 #[rv ac, iv 0, iv 2, rv t_1, .unset] [(.int 0)]))
  refine go_st (fun t k => XS.istore X1.here hx rfl (hb hby d7_6) rfl (l' := #[rv ac, iv 0, iv 2, rv t_1, iv 0]) rfl k) ?_
  show Go _ _ _ _ (T1.setTop (mkF m 8 #[rv ac, iv 0, iv 2, rv t_1, iv 0] []))
  refine go_st (fun t k => XS.iload X1.here hx rfl (hb hby d7_8) rfl k) ?_
  show Go _ _ _ _ (T1.setTop (mkF m 10 #[rv ac, iv 0, iv 2, rv t_1, iv 0] [(.int 0)]))
  refine go_st (fun t k => XS.iloadN X1.here hx rfl (hb hby d7_10) rfl k) ?_
  show Go _ _ _ _ (T1.setTop (mkF m 11 #[rv ac, iv 0, iv 2, rv t_1, iv 0] [(.int 2), (.int 0)]))
  refine go_st (fun t k => XS.icmpNo X1.here hx rfl (hb hby d7_11) rfl (tlt ((by decide) : (0 : Int32) < (2 : Int32))).2.1 k) ?_
  show Go _ _ _ _ (T1.setTop (mkF m 14 #[rv ac, iv 0, iv 2, rv t_1, iv 0] []))
  refine go_st (fun t k => XS.aloadN X1.here hx rfl (hb hby d7_14) rfl rfl k) ?_
  show Go _ _ _ _ (T1.setTop (mkF m 15 #[rv ac, iv 0, iv 2, rv t_1, iv 0] [(.ref t_1)]))
  refine go_st (fun t k => XS.iload X1.here hx rfl (hb hby d7_15) rfl k) ?_
  show Go _ _ _ _ (T1.setTop (mkF m 17 #[rv ac, iv 0, iv 2, rv t_1, iv 0] [(.int 0), (.ref t_1)]))
  refine go_st (fun t k => XS.aloadN X1.here hx rfl (hb hby d7_17) rfl rfl k) ?_
  show Go _ _ _ _ (T1.setTop (mkF m 18 #[rv ac, iv 0, iv 2, rv t_1, iv 0] [(.ref ac), (.int 0), (.ref t_1)]))
  refine go_st (fun t k => XS.iloadN X1.here hx rfl (hb hby d7_18) rfl k) ?_
  show Go _ _ _ _ (T1.setTop (mkF m 19 #[rv ac, iv 0, iv 2, rv t_1, iv 0] [(.int 0), (.ref ac), (.int 0), (.ref t_1)]))
  have f2 : Arv Z h1 ac kc .char (2 : Int32) [(.int c0), (.int c1)] (.int (0 : Int32)) := (H0.keep K1 nin0)
  obtain ⟨zc3, zA3, zq3, zS3, zN3, zH3, zG3⟩ := id f2
  have hin3 : ¬ ((0 : Int32) < 0 ∨ zc3.slots.size ≤ ((0 : Int32)).toNatClampNeg) := inb_of zS3 ⟨by decide, by decide⟩
  have hat3 : zc3.slots[((0 : Int32)).toNatClampNeg]? = some (.int c0) := Has.at zH3 hin3 rfl
  refine go_st (fun t k => X1.caload hx (j := (0 : Int32)) (v := (.int c0)) (by rw [e1]; exact zA3.1) (State.isArrayOf_alike hZ.alike zA3.2.1) zA3.2.2 hin3 hat3 (g := (mkF m 19 #[rv ac, iv 0, iv 2, rv t_1, iv 0] [(.int 0), (.ref ac), (.int 0), (.ref t_1)])) rfl rfl (hb hby d7_19) t k) ?_
  show Go _ _ _ _ (T1.setTop (mkF m 20 #[rv ac, iv 0, iv 2, rv t_1, iv 0] [(.int c0), (.int 0), (.ref t_1)]))
  have oe4 : Old Z n0 h1 := (Old.keep O0 K1 all0)
  obtain ⟨_, _, ⟨T5, L5, kk5, nn5⟩, -, X5, ⟨Lc5, hQ5, lq5, yq5, zq5⟩, st5⟩ := Jvm.LawKit.callS X1 hx (y := (⟨"java/lang/StringUTF16", "putChar", "([BII)V"⟩ : MethodName)) hown (mvT hZ (w71 hw)) (mvT hZ (w72 hw)) (mvT hZ (w22 hw)) (mvT hZ (w73 hw)) (by decide) (backOf (W := 0) (rm_put20 l Z a0 hw [] t_1 kb_1 c0 (0 : Int32) (0 : Int32) (0 : Int32) (0 : Int32) h1 n0 (Nat.le_trans Z0 K1.1) p1_1 gf1_0 AD HB LB oe4) hZ (w73 hw) (w22 hw) (by decide) (by decide)) (g := (mkF m 20 #[rv ac, iv 0, iv 2, rv t_1, iv 0] [(.int c0), (.int 0), (.ref t_1)])) rfl (by rw [hml]; rfl) (argsL := [(.ref t_1), (.int 0), (.int c0)]) (rest := []) (lenOf pd_3 rfl) rfl (by show 2 * 0 + _ ≤ _; exact Nat.le_of_eq rfl) (hb hby d7_20) (fun _ _ => ⟨rfl, e1, (by decide : 1 + 0 ≤ _), (by decide : 4 + 0 ≤ _)⟩)
  dsimp only [Pt.U, Pt.locs, Pt.cells, Pt.slots] at X5 lq5 yq5 zq5 st5 hQ5
  subst lq5 yq5 zq5
  obtain ⟨h5, e5⟩ : ∃ z, T5.heap = z := ⟨_, rfl⟩
  rw [e5] at hQ5
  obtain ⟨rfl, N5q, K5, p5_0⟩ := hQ5
  have N5 := Fr.app N1 N5q
  refine go_st st5 ?_
  show Go _ _ _ _ (T5.setTop (mkF m 23 #[rv ac, iv 0, iv 2, rv t_1, iv 0] []))
  refine go_st (fun t k => XS.iinc X5.here hx rfl (hb hby d7_23) rfl (l' := #[rv ac, iv ((0 : Int32) + (1 : Int32)), iv 2, rv t_1, iv 0]) rfl k) ?_
  rw [show ((0 : Int32) + (1 : Int32)) = (1 : Int32) from by decide]
  show Go _ _ _ _ (T5.setTop (mkF m 26 #[rv ac, iv 1, iv 2, rv t_1, iv 0] []))
  refine go_st (fun t k => XS.iinc X5.here hx rfl (hb hby d7_26) rfl (l' := #[rv ac, iv 1, iv 2, rv t_1, iv ((0 : Int32) + (1 : Int32))]) rfl k) ?_
  rw [show ((0 : Int32) + (1 : Int32)) = (1 : Int32) from by decide]
  show Go _ _ _ _ (T5.setTop (mkF m 29 #[rv ac, iv 1, iv 2, rv t_1, iv 1] []))
  refine go_st (fun t k => XS.goto X5.here hx rfl (pc0 := 29) (pc' := 8) rfl (hb hby d7_29) (by decide) (by decide) k) ?_
  show Go _ _ _ _ (T5.setTop (mkF m 8 #[rv ac, iv 1, iv 2, rv t_1, iv 1] []))
  refine go_st (fun t k => XS.iload X5.here hx rfl (hb hby d7_8) rfl k) ?_
  show Go _ _ _ _ (T5.setTop (mkF m 10 #[rv ac, iv 1, iv 2, rv t_1, iv 1] [(.int 1)]))
  refine go_st (fun t k => XS.iloadN X5.here hx rfl (hb hby d7_10) rfl k) ?_
  show Go _ _ _ _ (T5.setTop (mkF m 11 #[rv ac, iv 1, iv 2, rv t_1, iv 1] [(.int 2), (.int 1)]))
  refine go_st (fun t k => XS.icmpNo X5.here hx rfl (hb hby d7_11) rfl (tlt ((by decide) : (1 : Int32) < (2 : Int32))).2.1 k) ?_
  show Go _ _ _ _ (T5.setTop (mkF m 14 #[rv ac, iv 1, iv 2, rv t_1, iv 1] []))
  refine go_st (fun t k => XS.aloadN X5.here hx rfl (hb hby d7_14) rfl rfl k) ?_
  show Go _ _ _ _ (T5.setTop (mkF m 15 #[rv ac, iv 1, iv 2, rv t_1, iv 1] [(.ref t_1)]))
  refine go_st (fun t k => XS.iload X5.here hx rfl (hb hby d7_15) rfl k) ?_
  show Go _ _ _ _ (T5.setTop (mkF m 17 #[rv ac, iv 1, iv 2, rv t_1, iv 1] [(.int 1), (.ref t_1)]))
  refine go_st (fun t k => XS.aloadN X5.here hx rfl (hb hby d7_17) rfl rfl k) ?_
  show Go _ _ _ _ (T5.setTop (mkF m 18 #[rv ac, iv 1, iv 2, rv t_1, iv 1] [(.ref ac), (.int 1), (.ref t_1)]))
  refine go_st (fun t k => XS.iloadN X5.here hx rfl (hb hby d7_18) rfl k) ?_
  show Go _ _ _ _ (T5.setTop (mkF m 19 #[rv ac, iv 1, iv 2, rv t_1, iv 1] [(.int 1), (.ref ac), (.int 1), (.ref t_1)]))
  have nq6 : ac ≠ t_1 := Nat.ne_of_lt (Nat.lt_of_lt_of_le (Nat.lt_of_lt_of_le H0.lt (Nat.le_refl _)) lf1_0)
  have f7 : Arv Z h5 ac kc .char (2 : Int32) [(.int c0), (.int c1)] (.int (0 : Int32)) := (f2.keep K5 (ninS nq6 nin0))
  obtain ⟨zc8, zA8, zq8, zS8, zN8, zH8, zG8⟩ := id f7
  have hin8 : ¬ ((1 : Int32) < 0 ∨ zc8.slots.size ≤ ((1 : Int32)).toNatClampNeg) := inb_of zS8 ⟨by decide, by decide⟩
  have hat8 : zc8.slots[((1 : Int32)).toNatClampNeg]? = some (.int c1) := Has.at zH8 hin8 rfl
  refine go_st (fun t k => X5.caload hx (j := (1 : Int32)) (v := (.int c1)) (by rw [e5]; exact zA8.1) (State.isArrayOf_alike hZ.alike zA8.2.1) zA8.2.2 hin8 hat8 (g := (mkF m 19 #[rv ac, iv 1, iv 2, rv t_1, iv 1] [(.int 1), (.ref ac), (.int 1), (.ref t_1)])) rfl rfl (hb hby d7_19) t k) ?_
  show Go _ _ _ _ (T5.setTop (mkF m 20 #[rv ac, iv 1, iv 2, rv t_1, iv 1] [(.int c1), (.int 1), (.ref t_1)]))
  have oe9 : Old Z n0 h5 := (Old.keep oe4 K5 (allS gf1_0 all0))
  have sz10 : h0.size ≤ h5.size := (Nat.le_trans K1.1 K5.1)
  obtain ⟨_, _, ⟨T11, L11, kk11, nn11⟩, -, X11, ⟨Lc11, hQ11, lq11, yq11, zq11⟩, st11⟩ := Jvm.LawKit.callS X5 hx (y := (⟨"java/lang/StringUTF16", "putChar", "([BII)V"⟩ : MethodName)) hown (mvT hZ (w71 hw)) (mvT hZ (w72 hw)) (mvT hZ (w22 hw)) (mvT hZ (w73 hw)) (by decide) (backOf (W := 0) (rm_put21 l Z a0 hw [] t_1 kb_1 c1 (nar .byte (((c0 >>> ((0 : Int32) &&& 31))).toInt8.toInt32)) (nar .byte (((c0 >>> ((8 : Int32) &&& 31))).toInt8.toInt32)) (0 : Int32) (0 : Int32) h5 n0 (Nat.le_trans Z0 sz10) p5_0 gf1_0 AD HB LB oe9) hZ (w73 hw) (w22 hw) (by decide) (by decide)) (g := (mkF m 20 #[rv ac, iv 1, iv 2, rv t_1, iv 1] [(.int c1), (.int 1), (.ref t_1)])) rfl (by rw [hml]; rfl) (argsL := [(.ref t_1), (.int 1), (.int c1)]) (rest := []) (lenOf pd_3 rfl) rfl (by show 2 * 0 + _ ≤ _; exact Nat.le_of_eq rfl) (hb hby d7_20) (fun _ _ => ⟨rfl, e5, (by decide : 1 + 0 ≤ _), (by decide : 4 + 0 ≤ _)⟩)
  dsimp only [Pt.U, Pt.locs, Pt.cells, Pt.slots] at X11 lq11 yq11 zq11 st11 hQ11
  subst lq11 yq11 zq11
  obtain ⟨h11, e11⟩ : ∃ z, T11.heap = z := ⟨_, rfl⟩
  rw [e11] at hQ11
  obtain ⟨rfl, N11q, K11, p11_0⟩ := hQ11
  have N11 := Fr.app N5 N11q
  refine go_st st11 ?_
  show Go _ _ _ _ (T11.setTop (mkF m 23 #[rv ac, iv 1, iv 2, rv t_1, iv 1] []))
  refine go_st (fun t k => XS.iinc X11.here hx rfl (hb hby d7_23) rfl (l' := #[rv ac, iv ((1 : Int32) + (1 : Int32)), iv 2, rv t_1, iv 1]) rfl k) ?_
  rw [show ((1 : Int32) + (1 : Int32)) = (2 : Int32) from by decide]
  show Go _ _ _ _ (T11.setTop (mkF m 26 #[rv ac, iv 2, iv 2, rv t_1, iv 1] []))
  refine go_st (fun t k => XS.iinc X11.here hx rfl (hb hby d7_26) rfl (l' := #[rv ac, iv 2, iv 2, rv t_1, iv ((1 : Int32) + (1 : Int32))]) rfl k) ?_
  rw [show ((1 : Int32) + (1 : Int32)) = (2 : Int32) from by decide]
  show Go _ _ _ _ (T11.setTop (mkF m 29 #[rv ac, iv 2, iv 2, rv t_1, iv 2] []))
  refine go_st (fun t k => XS.goto X11.here hx rfl (pc0 := 29) (pc' := 8) rfl (hb hby d7_29) (by decide) (by decide) k) ?_
  show Go _ _ _ _ (T11.setTop (mkF m 8 #[rv ac, iv 2, iv 2, rv t_1, iv 2] []))
  refine go_st (fun t k => XS.iload X11.here hx rfl (hb hby d7_8) rfl k) ?_
  show Go _ _ _ _ (T11.setTop (mkF m 10 #[rv ac, iv 2, iv 2, rv t_1, iv 2] [(.int 2)]))
  refine go_st (fun t k => XS.iloadN X11.here hx rfl (hb hby d7_10) rfl k) ?_
  show Go _ _ _ _ (T11.setTop (mkF m 11 #[rv ac, iv 2, iv 2, rv t_1, iv 2] [(.int 2), (.int 2)]))
  refine go_st (fun t k => XS.icmpYes X11.here hx rfl (pc0 := 11) (pc' := 32) rfl (hb hby d7_11) rfl (flt ((by decide) : ¬ ((2 : Int32) < (2 : Int32)))).2.1 (by decide) (by decide) k) ?_
  show Go _ _ _ _ (T11.setTop (mkF m 32 #[rv ac, iv 2, iv 2, rv t_1, iv 2] []))
  refine go_st (fun t k => XS.aloadN X11.here hx rfl (hb hby d7_32) rfl rfl k) ?_
  show Go _ _ _ _ (T11.setTop (mkF m 33 #[rv ac, iv 2, iv 2, rv t_1, iv 2] [(.ref t_1)]))
  have ke12 : Keep h0 h1 [] := (Keep.trans (Keep.refl h0 []) K1 all0)
  have ke13 : Keep h0 h5 [] := (Keep.trans ke12 K5 (allS (Or.inr lf1_0) all0))
  have ke14 : Keep h0 h11 [] := (Keep.trans ke13 K11 (allS (Or.inr lf1_0) all0))
  obtain ⟨fs, hr, hrun, hended, hW, hsame⟩ := X11.leave (v := some (.ref t_1)) (fun h => by rw [Bd.returns] at h; cases h)
  refine ⟨_, _, ?_, hrun, hended, _, _, rfl, ?_, ⟨_, rfl⟩, hW, hsame.mono (by decide) (by decide)⟩
  · exact retOut X11 hx Bd.returns rfl (Or.inr (Or.inr (Or.inr (Or.inr ⟨rfl, rfl, rfl⟩)))) (hb hby d7_33) hr
  · show Q_tob2 _ _ _ _ _ _ _ _ T11.heap _
    rw [e11]
    exact ⟨t_1, kb_1, rfl, N11, ke14, gf1_0, lf1_0, p11_0⟩
def Q_getc20 (Z : State) (ab : Addr) (kb : ClassId) (c0 : Int32) (c1 : Int32) (h0 : Heap) (n0 : Nat) (vR : Option Value) (h : Heap) (L : List Loc) : Prop := ∃ (r : Int32), vR = some (.int (nar .char r)) ∧ Fr n0 L ∧ h = h0 ∧ ((255 : Int32) < nar .char r)
theorem ef_getc20 (m : MethodId) (x0 : Addr) (x1 : Int32) : entryFrame m #[(.ref x0), (.int x1)] 2 = mkF m 0 #[.val (.ref x0), .val (.int x1)] [] := by first | (simp [entryFrame, mkF, argsToLocals, Value.category]; done) | rfl
set_option maxRecDepth 65536 in
set_option maxHeartbeats 40000000 in
theorem rm_getc20 (l : Launch) (Z : State) (a0 : Array Value) (hw : ∀ d ∈ tables_1, d.before a0 Z = true) (ws : List Jvm.Cond) (ab : Addr) (kb : ClassId) (c0 : Int32) (c1 : Int32) (h0 : Heap) (n0 : Nat) (Z0 : n0 ≤ h0.size) (H0 : Arv Z h0 ab kb .byte (4 : Int32) [(.int (nar .byte (((c0 >>> ((0 : Int32) &&& 31))).toInt8.toInt32))), (.int (nar .byte (((c0 >>> ((8 : Int32) &&& 31))).toInt8.toInt32))), (.int (nar .byte (((c1 >>> ((0 : Int32) &&& 31))).toInt8.toInt32))), (.int (nar .byte (((c1 >>> ((8 : Int32) &&& 31))).toInt8.toInt32)))] (.int (0 : Int32))) (AD : Sta Z Z.heap "java/lang/StringUTF16" "$assertionsDisabled" "Z" (.int (1 : Int32))) (HB : Sta Z Z.heap "java/lang/StringUTF16" "HI_BYTE_SHIFT" "I" (.int (0 : Int32))) (LB : Sta Z Z.heap "java/lang/StringUTF16" "LO_BYTE_SHIFT" "I" (.int (8 : Int32))) (r0 : 0 ≤ c0.toInt ∧ c0.toInt ≤ 65535) (hg : (255 : Int32) < c0) (O0 : Old Z n0 h0) :
    MetFree l (⟨"java/lang/StringUTF16", "getChar", "([BI)C"⟩ : MethodName) (head1 (Jvm.Cond.code (⟨"java/lang/StringUTF16", "getChar", "([BI)C"⟩ : MethodName) jdk_52_method_5_code 2 (some .char) :: ws) ({ frames := 0, cells := 0, slots := 0, locals := 0 } : Room)) (fun a U => a = #[(.ref ab), (.int 0)] ∧ Z.Warmed39 U.vm ∧ U.heap = h0) (fun _ _ _ _ _ => True) (fun _ U o U' => ∃ v L, o = .returned v ∧ Q_getc20 Z ab kb c0 c1 h0 n0 v U'.heap L ∧ FrameEnd U o U' L ({ frames := 0, cells := 0, slots := 0, locals := 0 } : Room).cells ({ frames := 0, cells := 0, slots := 0, locals := 0 } : Room).slots) := by
  refine MetFree.of_bodySF (plainFor_of_name pn_java_lang_StringUTF16) hisR ?_
  intro p e s m args below meth c s₁ Bd hml0 hP hK
  obtain ⟨rfl, hZ, hh⟩ := hP
  have hx := Bd.exec
  have hby := Bd.bytes
  have hml : c.maxLocals = 2 := hml0
  have hown : s.vm.findClass "java/lang/StringUTF16" = some m.cls := findClass_of_methodNamed Bd.named
  have hnm := (name_of_methodNamed Bd.named Bd.method).1
  have X0 : Stand p l e ({ frames := 0, cells := 0, slots := 0, locals := 0 } : Room) s m #[(.ref ab), (.int 0)] below meth c s₁ [] 0 0 := Stand.of_body Bd
  have e0 : s₁.heap = h0 := by rw [← hh, Bd.state]; rfl
  have N0 := Fr.nil n0
  refine go_st (fun t k => castTop (ef_getc20 m ab (0 : Int32)) k) ?_
  show Go _ _ _ _ (s₁.setTop (mkF m 0 #[rv ab, iv 0] []))
  obtain ⟨T1, X1, e1, st1⟩ := getS2 X0 hx hZ hown (host := "") (Or.inl (w74 hw)) Via.refl e0 (Sta.ext O0.2 AD) (g := (mkF m 0 #[rv ab, iv 0] [])) rfl (hb hby d8_0)
  refine go_st (fun t k => st1 t k) ?_
  show Go _ _ _ _ (T1.setTop (mkF m 3 #[rv ab, iv 0] [(.int 1)]))
  refine go_st (fun t k => XS.ifYes X1.here hx rfl (pc0 := 3) (pc' := 28) rfl (hb hby d8_3) rfl ((if0 _ _).trans (feq ((by decide) : ¬ ((1 : Int32) = (0 : Int32)))).2) (by decide) (by decide) k) ?_
  show Go _ _ _ _ (T1.setTop (mkF m 28 #[rv ab, iv 0] []))
  refine go_st (fun t k => XS.iloadN X1.here hx rfl (hb hby d8_28) rfl k) ?_
  show Go _ _ _ _ (T1.setTop (mkF m 29 #[rv ab, iv 0] [(.int 0)]))
  refine go_st (fun t k => XS.iconst X1.here hx rfl (hb hby d8_29) k) ?_
  show Go _ _ _ _ (T1.setTop (mkF m 30 #[rv ab, iv 0] [(.int 1), (.int 0)]))
  refine go_st (fun t k => XS.ishl X1.here hx rfl (hb hby d8_30) rfl k) ?_
  rw [show ((0 : Int32) <<< ((1 : Int32) &&& 31)) = (0 : Int32) from by decide]
  show Go _ _ _ _ (T1.setTop (mkF m 31 #[rv ab, iv 0] [(.int 0)]))
  refine go_st (fun t k => XS.istoreN X1.here hx rfl (hb hby d8_31) rfl (l' := #[rv ab, iv 0]) rfl k) ?_
  show Go _ _ _ _ (T1.setTop (mkF m 32 #[rv ab, iv 0] []))
  refine go_st (fun t k => XS.aloadN X1.here hx rfl (hb hby d8_32) rfl rfl k) ?_
  show Go _ _ _ _ (T1.setTop (mkF m 33 #[rv ab, iv 0] [(.ref ab)]))
  refine go_st (fun t k => XS.iloadN X1.here hx rfl (hb hby d8_33) rfl k) ?_
  show Go _ _ _ _ (T1.setTop (mkF m 34 #[rv ab, iv 0] [(.int 0), (.ref ab)]))
  refine go_st (fun t k => XS.iinc X1.here hx rfl (hb hby d8_34) rfl (l' := #[rv ab, iv ((0 : Int32) + (1 : Int32))]) rfl k) ?_
  rw [show ((0 : Int32) + (1 : Int32)) = (1 : Int32) from by decide]
  show Go _ _ _ _ (T1.setTop (mkF m 37 #[rv ab, iv 1] [(.int 0), (.ref ab)]))
  obtain ⟨zc2, zA2, zq2, zS2, zN2, zH2, zG2⟩ := id H0
  have hin2 : ¬ ((0 : Int32) < 0 ∨ zc2.slots.size ≤ ((0 : Int32)).toNatClampNeg) := inb_of zS2 ⟨by decide, by decide⟩
  have hat2 : zc2.slots[((0 : Int32)).toNatClampNeg]? = some (.int (nar .byte (((c0 >>> ((0 : Int32) &&& 31))).toInt8.toInt32))) := Has.at zH2 hin2 rfl
  refine go_st (fun t k => X1.baloadBytes hx (j := (0 : Int32)) (v := (.int (nar .byte (((c0 >>> ((0 : Int32) &&& 31))).toInt8.toInt32)))) (by rw [e1]; exact zA2.1) (State.isArrayOf_alike hZ.alike zA2.2.1) zA2.2.2 hin2 hat2 (g := (mkF m 37 #[rv ab, iv 1] [(.int 0), (.ref ab)])) rfl rfl (hb hby d8_37) t k) ?_
  show Go _ _ _ _ (T1.setTop (mkF m 38 #[rv ab, iv 1] [(.int (nar .byte (((c0 >>> ((0 : Int32) &&& 31))).toInt8.toInt32)))]))
  refine go_st (fun t k => XS.sipush X1.here hx rfl (hb hby d8_38) k) ?_
  show Go _ _ _ _ (T1.setTop (mkF m 41 #[rv ab, iv 1] [(.int 255), (.int (nar .byte (((c0 >>> ((0 : Int32) &&& 31))).toInt8.toInt32)))]))
  refine go_st (fun t k => XS.iand X1.here hx rfl (hb hby d8_41) rfl k) ?_
  show Go _ _ _ _ (T1.setTop (mkF m 42 #[rv ab, iv 1] [(.int ((nar .byte (((c0 >>> ((0 : Int32) &&& 31))).toInt8.toInt32)) &&& (255 : Int32)))]))
  obtain ⟨T3, X3, e3, st3⟩ := getS2 X1 hx hZ hown (host := "") (Or.inl (w75 hw)) Via.refl e1 (Sta.ext O0.2 HB) (g := (mkF m 42 #[rv ab, iv 1] [(.int ((nar .byte (((c0 >>> ((0 : Int32) &&& 31))).toInt8.toInt32)) &&& (255 : Int32)))])) rfl (hb hby d8_42)
  refine go_st (fun t k => st3 t k) ?_
  show Go _ _ _ _ (T3.setTop (mkF m 45 #[rv ab, iv 1] [(.int 0), (.int ((nar .byte (((c0 >>> ((0 : Int32) &&& 31))).toInt8.toInt32)) &&& (255 : Int32)))]))
  refine go_st (fun t k => XS.ishl X3.here hx rfl (hb hby d8_45) rfl k) ?_
  show Go _ _ _ _ (T3.setTop (mkF m 46 #[rv ab, iv 1] [(.int (((nar .byte (((c0 >>> ((0 : Int32) &&& 31))).toInt8.toInt32)) &&& (255 : Int32)) <<< ((0 : Int32) &&& 31)))]))
  refine go_st (fun t k => XS.aloadN X3.here hx rfl (hb hby d8_46) rfl rfl k) ?_
  show Go _ _ _ _ (T3.setTop (mkF m 47 #[rv ab, iv 1] [(.ref ab), (.int (((nar .byte (((c0 >>> ((0 : Int32) &&& 31))).toInt8.toInt32)) &&& (255 : Int32)) <<< ((0 : Int32) &&& 31)))]))
  refine go_st (fun t k => XS.iloadN X3.here hx rfl (hb hby d8_47) rfl k) ?_
  show Go _ _ _ _ (T3.setTop (mkF m 48 #[rv ab, iv 1] [(.int 1), (.ref ab), (.int (((nar .byte (((c0 >>> ((0 : Int32) &&& 31))).toInt8.toInt32)) &&& (255 : Int32)) <<< ((0 : Int32) &&& 31)))]))
  obtain ⟨zc4, zA4, zq4, zS4, zN4, zH4, zG4⟩ := id H0
  have hin4 : ¬ ((1 : Int32) < 0 ∨ zc4.slots.size ≤ ((1 : Int32)).toNatClampNeg) := inb_of zS4 ⟨by decide, by decide⟩
  have hat4 : zc4.slots[((1 : Int32)).toNatClampNeg]? = some (.int (nar .byte (((c0 >>> ((8 : Int32) &&& 31))).toInt8.toInt32))) := Has.at zH4 hin4 rfl
  refine go_st (fun t k => X3.baloadBytes hx (j := (1 : Int32)) (v := (.int (nar .byte (((c0 >>> ((8 : Int32) &&& 31))).toInt8.toInt32)))) (by rw [e3]; exact zA4.1) (State.isArrayOf_alike hZ.alike zA4.2.1) zA4.2.2 hin4 hat4 (g := (mkF m 48 #[rv ab, iv 1] [(.int 1), (.ref ab), (.int (((nar .byte (((c0 >>> ((0 : Int32) &&& 31))).toInt8.toInt32)) &&& (255 : Int32)) <<< ((0 : Int32) &&& 31)))])) rfl rfl (hb hby d8_48) t k) ?_
  show Go _ _ _ _ (T3.setTop (mkF m 49 #[rv ab, iv 1] [(.int (nar .byte (((c0 >>> ((8 : Int32) &&& 31))).toInt8.toInt32))), (.int (((nar .byte (((c0 >>> ((0 : Int32) &&& 31))).toInt8.toInt32)) &&& (255 : Int32)) <<< ((0 : Int32) &&& 31)))]))
  refine go_st (fun t k => XS.sipush X3.here hx rfl (hb hby d8_49) k) ?_
  show Go _ _ _ _ (T3.setTop (mkF m 52 #[rv ab, iv 1] [(.int 255), (.int (nar .byte (((c0 >>> ((8 : Int32) &&& 31))).toInt8.toInt32))), (.int (((nar .byte (((c0 >>> ((0 : Int32) &&& 31))).toInt8.toInt32)) &&& (255 : Int32)) <<< ((0 : Int32) &&& 31)))]))
  refine go_st (fun t k => XS.iand X3.here hx rfl (hb hby d8_52) rfl k) ?_
  show Go _ _ _ _ (T3.setTop (mkF m 53 #[rv ab, iv 1] [(.int ((nar .byte (((c0 >>> ((8 : Int32) &&& 31))).toInt8.toInt32)) &&& (255 : Int32))), (.int (((nar .byte (((c0 >>> ((0 : Int32) &&& 31))).toInt8.toInt32)) &&& (255 : Int32)) <<< ((0 : Int32) &&& 31)))]))
  obtain ⟨T5, X5, e5, st5⟩ := getS2 X3 hx hZ hown (host := "") (Or.inl (w76 hw)) Via.refl e3 (Sta.ext O0.2 LB) (g := (mkF m 53 #[rv ab, iv 1] [(.int ((nar .byte (((c0 >>> ((8 : Int32) &&& 31))).toInt8.toInt32)) &&& (255 : Int32))), (.int (((nar .byte (((c0 >>> ((0 : Int32) &&& 31))).toInt8.toInt32)) &&& (255 : Int32)) <<< ((0 : Int32) &&& 31)))])) rfl (hb hby d8_53)
  refine go_st (fun t k => st5 t k) ?_
  show Go _ _ _ _ (T5.setTop (mkF m 56 #[rv ab, iv 1] [(.int 8), (.int ((nar .byte (((c0 >>> ((8 : Int32) &&& 31))).toInt8.toInt32)) &&& (255 : Int32))), (.int (((nar .byte (((c0 >>> ((0 : Int32) &&& 31))).toInt8.toInt32)) &&& (255 : Int32)) <<< ((0 : Int32) &&& 31)))]))
  refine go_st (fun t k => XS.ishl X5.here hx rfl (hb hby d8_56) rfl k) ?_
  show Go _ _ _ _ (T5.setTop (mkF m 57 #[rv ab, iv 1] [(.int (((nar .byte (((c0 >>> ((8 : Int32) &&& 31))).toInt8.toInt32)) &&& (255 : Int32)) <<< ((8 : Int32) &&& 31))), (.int (((nar .byte (((c0 >>> ((0 : Int32) &&& 31))).toInt8.toInt32)) &&& (255 : Int32)) <<< ((0 : Int32) &&& 31)))]))
  refine go_st (fun t k => XS.ior X5.here hx rfl (hb hby d8_57) rfl k) ?_
  show Go _ _ _ _ (T5.setTop (mkF m 58 #[rv ab, iv 1] [(.int ((((nar .byte (((c0 >>> ((0 : Int32) &&& 31))).toInt8.toInt32)) &&& (255 : Int32)) <<< ((0 : Int32) &&& 31)) ||| (((nar .byte (((c0 >>> ((8 : Int32) &&& 31))).toInt8.toInt32)) &&& (255 : Int32)) <<< ((8 : Int32) &&& 31))))]))
  refine go_st (fun t k => XS.i2c X5.here hx rfl (hb hby d8_58) rfl k) ?_
  show Go _ _ _ _ (T5.setTop (mkF m 59 #[rv ab, iv 1] [(.int ((((((nar .byte (((c0 >>> ((0 : Int32) &&& 31))).toInt8.toInt32)) &&& (255 : Int32)) <<< ((0 : Int32) &&& 31)) ||| (((nar .byte (((c0 >>> ((8 : Int32) &&& 31))).toInt8.toInt32)) &&& (255 : Int32)) <<< ((8 : Int32) &&& 31)))).toUInt32.toUInt16.toUInt32.toInt32))]))
  obtain ⟨fs, hr, hrun, hended, hW, hsame⟩ := X5.leave (v := some (.int (nar .char ((((((nar .byte (((c0 >>> ((0 : Int32) &&& 31))).toInt8.toInt32)) &&& (255 : Int32)) <<< ((0 : Int32) &&& 31)) ||| (((nar .byte (((c0 >>> ((8 : Int32) &&& 31))).toInt8.toInt32)) &&& (255 : Int32)) <<< ((8 : Int32) &&& 31)))).toUInt32.toUInt16.toUInt32.toInt32)))) (fun h => by rw [Bd.returns] at h; cases h)
  refine ⟨_, _, ?_, hrun, hended, _, _, rfl, ?_, ⟨_, rfl⟩, hW, hsame.mono (by decide) (by decide)⟩
  · exact retN X5 hx (t := .char) Bd.returns (by simp) (hb hby d8_59) hr
  · show Q_getc20 _ _ _ _ _ _ _ _ T5.heap _
    rw [e5]
    exact ⟨((((((nar .byte (((c0 >>> ((0 : Int32) &&& 31))).toInt8.toInt32)) &&& (255 : Int32)) <<< ((0 : Int32) &&& 31)) ||| (((nar .byte (((c0 >>> ((8 : Int32) &&& 31))).toInt8.toInt32)) &&& (255 : Int32)) <<< ((8 : Int32) &&& 31)))).toUInt32.toUInt16.toUInt32.toInt32), rfl, N0, rfl, (by rw [nar_c2]; exact ch_back r0.1 r0.2 hg)⟩
def Q_getc21 (Z : State) (ab : Addr) (kb : ClassId) (c0 : Int32) (c1 : Int32) (h0 : Heap) (n0 : Nat) (vR : Option Value) (h : Heap) (L : List Loc) : Prop := ∃ (r : Int32), vR = some (.int (nar .char r)) ∧ Fr n0 L ∧ h = h0 ∧ ((255 : Int32) < nar .char r)
theorem ef_getc21 (m : MethodId) (x0 : Addr) (x1 : Int32) : entryFrame m #[(.ref x0), (.int x1)] 2 = mkF m 0 #[.val (.ref x0), .val (.int x1)] [] := by first | (simp [entryFrame, mkF, argsToLocals, Value.category]; done) | rfl
set_option maxRecDepth 65536 in
set_option maxHeartbeats 40000000 in
theorem rm_getc21 (l : Launch) (Z : State) (a0 : Array Value) (hw : ∀ d ∈ tables_1, d.before a0 Z = true) (ws : List Jvm.Cond) (ab : Addr) (kb : ClassId) (c0 : Int32) (c1 : Int32) (h0 : Heap) (n0 : Nat) (Z0 : n0 ≤ h0.size) (H0 : Arv Z h0 ab kb .byte (4 : Int32) [(.int (nar .byte (((c0 >>> ((0 : Int32) &&& 31))).toInt8.toInt32))), (.int (nar .byte (((c0 >>> ((8 : Int32) &&& 31))).toInt8.toInt32))), (.int (nar .byte (((c1 >>> ((0 : Int32) &&& 31))).toInt8.toInt32))), (.int (nar .byte (((c1 >>> ((8 : Int32) &&& 31))).toInt8.toInt32)))] (.int (0 : Int32))) (AD : Sta Z Z.heap "java/lang/StringUTF16" "$assertionsDisabled" "Z" (.int (1 : Int32))) (HB : Sta Z Z.heap "java/lang/StringUTF16" "HI_BYTE_SHIFT" "I" (.int (0 : Int32))) (LB : Sta Z Z.heap "java/lang/StringUTF16" "LO_BYTE_SHIFT" "I" (.int (8 : Int32))) (r0 : 0 ≤ c1.toInt ∧ c1.toInt ≤ 65535) (hg : (255 : Int32) < c1) (O0 : Old Z n0 h0) :
    MetFree l (⟨"java/lang/StringUTF16", "getChar", "([BI)C"⟩ : MethodName) (head1 (Jvm.Cond.code (⟨"java/lang/StringUTF16", "getChar", "([BI)C"⟩ : MethodName) jdk_52_method_5_code 2 (some .char) :: ws) ({ frames := 0, cells := 0, slots := 0, locals := 0 } : Room)) (fun a U => a = #[(.ref ab), (.int 1)] ∧ Z.Warmed39 U.vm ∧ U.heap = h0) (fun _ _ _ _ _ => True) (fun _ U o U' => ∃ v L, o = .returned v ∧ Q_getc21 Z ab kb c0 c1 h0 n0 v U'.heap L ∧ FrameEnd U o U' L ({ frames := 0, cells := 0, slots := 0, locals := 0 } : Room).cells ({ frames := 0, cells := 0, slots := 0, locals := 0 } : Room).slots) := by
  refine MetFree.of_bodySF (plainFor_of_name pn_java_lang_StringUTF16) hisR ?_
  intro p e s m args below meth c s₁ Bd hml0 hP hK
  obtain ⟨rfl, hZ, hh⟩ := hP
  have hx := Bd.exec
  have hby := Bd.bytes
  have hml : c.maxLocals = 2 := hml0
  have hown : s.vm.findClass "java/lang/StringUTF16" = some m.cls := findClass_of_methodNamed Bd.named
  have hnm := (name_of_methodNamed Bd.named Bd.method).1
  have X0 : Stand p l e ({ frames := 0, cells := 0, slots := 0, locals := 0 } : Room) s m #[(.ref ab), (.int 1)] below meth c s₁ [] 0 0 := Stand.of_body Bd
  have e0 : s₁.heap = h0 := by rw [← hh, Bd.state]; rfl
  have N0 := Fr.nil n0
  refine go_st (fun t k => castTop (ef_getc21 m ab (1 : Int32)) k) ?_
  show Go _ _ _ _ (s₁.setTop (mkF m 0 #[rv ab, iv 1] []))
  obtain ⟨T1, X1, e1, st1⟩ := getS2 X0 hx hZ hown (host := "") (Or.inl (w74 hw)) Via.refl e0 (Sta.ext O0.2 AD) (g := (mkF m 0 #[rv ab, iv 1] [])) rfl (hb hby d8_0)
  refine go_st (fun t k => st1 t k) ?_
  show Go _ _ _ _ (T1.setTop (mkF m 3 #[rv ab, iv 1] [(.int 1)]))
  refine go_st (fun t k => XS.ifYes X1.here hx rfl (pc0 := 3) (pc' := 28) rfl (hb hby d8_3) rfl ((if0 _ _).trans (feq ((by decide) : ¬ ((1 : Int32) = (0 : Int32)))).2) (by decide) (by decide) k) ?_
  show Go _ _ _ _ (T1.setTop (mkF m 28 #[rv ab, iv 1] []))
  refine go_st (fun t k => XS.iloadN X1.here hx rfl (hb hby d8_28) rfl k) ?_
  show Go _ _ _ _ (T1.setTop (mkF m 29 #[rv ab, iv 1] [(.int 1)]))
  refine go_st (fun t k => XS.iconst X1.here hx rfl (hb hby d8_29) k) ?_
  show Go _ _ _ _ (T1.setTop (mkF m 30 #[rv ab, iv 1] [(.int 1), (.int 1)]))
  refine go_st (fun t k => XS.ishl X1.here hx rfl (hb hby d8_30) rfl k) ?_
  rw [show ((1 : Int32) <<< ((1 : Int32) &&& 31)) = (2 : Int32) from by decide]
  show Go _ _ _ _ (T1.setTop (mkF m 31 #[rv ab, iv 1] [(.int 2)]))
  refine go_st (fun t k => XS.istoreN X1.here hx rfl (hb hby d8_31) rfl (l' := #[rv ab, iv 2]) rfl k) ?_
  show Go _ _ _ _ (T1.setTop (mkF m 32 #[rv ab, iv 2] []))
  refine go_st (fun t k => XS.aloadN X1.here hx rfl (hb hby d8_32) rfl rfl k) ?_
  show Go _ _ _ _ (T1.setTop (mkF m 33 #[rv ab, iv 2] [(.ref ab)]))
  refine go_st (fun t k => XS.iloadN X1.here hx rfl (hb hby d8_33) rfl k) ?_
  show Go _ _ _ _ (T1.setTop (mkF m 34 #[rv ab, iv 2] [(.int 2), (.ref ab)]))
  refine go_st (fun t k => XS.iinc X1.here hx rfl (hb hby d8_34) rfl (l' := #[rv ab, iv ((2 : Int32) + (1 : Int32))]) rfl k) ?_
  rw [show ((2 : Int32) + (1 : Int32)) = (3 : Int32) from by decide]
  show Go _ _ _ _ (T1.setTop (mkF m 37 #[rv ab, iv 3] [(.int 2), (.ref ab)]))
  obtain ⟨zc2, zA2, zq2, zS2, zN2, zH2, zG2⟩ := id H0
  have hin2 : ¬ ((2 : Int32) < 0 ∨ zc2.slots.size ≤ ((2 : Int32)).toNatClampNeg) := inb_of zS2 ⟨by decide, by decide⟩
  have hat2 : zc2.slots[((2 : Int32)).toNatClampNeg]? = some (.int (nar .byte (((c1 >>> ((0 : Int32) &&& 31))).toInt8.toInt32))) := Has.at zH2 hin2 rfl
  refine go_st (fun t k => X1.baloadBytes hx (j := (2 : Int32)) (v := (.int (nar .byte (((c1 >>> ((0 : Int32) &&& 31))).toInt8.toInt32)))) (by rw [e1]; exact zA2.1) (State.isArrayOf_alike hZ.alike zA2.2.1) zA2.2.2 hin2 hat2 (g := (mkF m 37 #[rv ab, iv 3] [(.int 2), (.ref ab)])) rfl rfl (hb hby d8_37) t k) ?_
  show Go _ _ _ _ (T1.setTop (mkF m 38 #[rv ab, iv 3] [(.int (nar .byte (((c1 >>> ((0 : Int32) &&& 31))).toInt8.toInt32)))]))
  refine go_st (fun t k => XS.sipush X1.here hx rfl (hb hby d8_38) k) ?_
  show Go _ _ _ _ (T1.setTop (mkF m 41 #[rv ab, iv 3] [(.int 255), (.int (nar .byte (((c1 >>> ((0 : Int32) &&& 31))).toInt8.toInt32)))]))
  refine go_st (fun t k => XS.iand X1.here hx rfl (hb hby d8_41) rfl k) ?_
  show Go _ _ _ _ (T1.setTop (mkF m 42 #[rv ab, iv 3] [(.int ((nar .byte (((c1 >>> ((0 : Int32) &&& 31))).toInt8.toInt32)) &&& (255 : Int32)))]))
  obtain ⟨T3, X3, e3, st3⟩ := getS2 X1 hx hZ hown (host := "") (Or.inl (w75 hw)) Via.refl e1 (Sta.ext O0.2 HB) (g := (mkF m 42 #[rv ab, iv 3] [(.int ((nar .byte (((c1 >>> ((0 : Int32) &&& 31))).toInt8.toInt32)) &&& (255 : Int32)))])) rfl (hb hby d8_42)
  refine go_st (fun t k => st3 t k) ?_
  show Go _ _ _ _ (T3.setTop (mkF m 45 #[rv ab, iv 3] [(.int 0), (.int ((nar .byte (((c1 >>> ((0 : Int32) &&& 31))).toInt8.toInt32)) &&& (255 : Int32)))]))
  refine go_st (fun t k => XS.ishl X3.here hx rfl (hb hby d8_45) rfl k) ?_
  show Go _ _ _ _ (T3.setTop (mkF m 46 #[rv ab, iv 3] [(.int (((nar .byte (((c1 >>> ((0 : Int32) &&& 31))).toInt8.toInt32)) &&& (255 : Int32)) <<< ((0 : Int32) &&& 31)))]))
  refine go_st (fun t k => XS.aloadN X3.here hx rfl (hb hby d8_46) rfl rfl k) ?_
  show Go _ _ _ _ (T3.setTop (mkF m 47 #[rv ab, iv 3] [(.ref ab), (.int (((nar .byte (((c1 >>> ((0 : Int32) &&& 31))).toInt8.toInt32)) &&& (255 : Int32)) <<< ((0 : Int32) &&& 31)))]))
  refine go_st (fun t k => XS.iloadN X3.here hx rfl (hb hby d8_47) rfl k) ?_
  show Go _ _ _ _ (T3.setTop (mkF m 48 #[rv ab, iv 3] [(.int 3), (.ref ab), (.int (((nar .byte (((c1 >>> ((0 : Int32) &&& 31))).toInt8.toInt32)) &&& (255 : Int32)) <<< ((0 : Int32) &&& 31)))]))
  obtain ⟨zc4, zA4, zq4, zS4, zN4, zH4, zG4⟩ := id H0
  have hin4 : ¬ ((3 : Int32) < 0 ∨ zc4.slots.size ≤ ((3 : Int32)).toNatClampNeg) := inb_of zS4 ⟨by decide, by decide⟩
  have hat4 : zc4.slots[((3 : Int32)).toNatClampNeg]? = some (.int (nar .byte (((c1 >>> ((8 : Int32) &&& 31))).toInt8.toInt32))) := Has.at zH4 hin4 rfl
  refine go_st (fun t k => X3.baloadBytes hx (j := (3 : Int32)) (v := (.int (nar .byte (((c1 >>> ((8 : Int32) &&& 31))).toInt8.toInt32)))) (by rw [e3]; exact zA4.1) (State.isArrayOf_alike hZ.alike zA4.2.1) zA4.2.2 hin4 hat4 (g := (mkF m 48 #[rv ab, iv 3] [(.int 3), (.ref ab), (.int (((nar .byte (((c1 >>> ((0 : Int32) &&& 31))).toInt8.toInt32)) &&& (255 : Int32)) <<< ((0 : Int32) &&& 31)))])) rfl rfl (hb hby d8_48) t k) ?_
  show Go _ _ _ _ (T3.setTop (mkF m 49 #[rv ab, iv 3] [(.int (nar .byte (((c1 >>> ((8 : Int32) &&& 31))).toInt8.toInt32))), (.int (((nar .byte (((c1 >>> ((0 : Int32) &&& 31))).toInt8.toInt32)) &&& (255 : Int32)) <<< ((0 : Int32) &&& 31)))]))
  refine go_st (fun t k => XS.sipush X3.here hx rfl (hb hby d8_49) k) ?_
  show Go _ _ _ _ (T3.setTop (mkF m 52 #[rv ab, iv 3] [(.int 255), (.int (nar .byte (((c1 >>> ((8 : Int32) &&& 31))).toInt8.toInt32))), (.int (((nar .byte (((c1 >>> ((0 : Int32) &&& 31))).toInt8.toInt32)) &&& (255 : Int32)) <<< ((0 : Int32) &&& 31)))]))
  refine go_st (fun t k => XS.iand X3.here hx rfl (hb hby d8_52) rfl k) ?_
  show Go _ _ _ _ (T3.setTop (mkF m 53 #[rv ab, iv 3] [(.int ((nar .byte (((c1 >>> ((8 : Int32) &&& 31))).toInt8.toInt32)) &&& (255 : Int32))), (.int (((nar .byte (((c1 >>> ((0 : Int32) &&& 31))).toInt8.toInt32)) &&& (255 : Int32)) <<< ((0 : Int32) &&& 31)))]))
  obtain ⟨T5, X5, e5, st5⟩ := getS2 X3 hx hZ hown (host := "") (Or.inl (w76 hw)) Via.refl e3 (Sta.ext O0.2 LB) (g := (mkF m 53 #[rv ab, iv 3] [(.int ((nar .byte (((c1 >>> ((8 : Int32) &&& 31))).toInt8.toInt32)) &&& (255 : Int32))), (.int (((nar .byte (((c1 >>> ((0 : Int32) &&& 31))).toInt8.toInt32)) &&& (255 : Int32)) <<< ((0 : Int32) &&& 31)))])) rfl (hb hby d8_53)
  refine go_st (fun t k => st5 t k) ?_
  show Go _ _ _ _ (T5.setTop (mkF m 56 #[rv ab, iv 3] [(.int 8), (.int ((nar .byte (((c1 >>> ((8 : Int32) &&& 31))).toInt8.toInt32)) &&& (255 : Int32))), (.int (((nar .byte (((c1 >>> ((0 : Int32) &&& 31))).toInt8.toInt32)) &&& (255 : Int32)) <<< ((0 : Int32) &&& 31)))]))
  refine go_st (fun t k => XS.ishl X5.here hx rfl (hb hby d8_56) rfl k) ?_
  show Go _ _ _ _ (T5.setTop (mkF m 57 #[rv ab, iv 3] [(.int (((nar .byte (((c1 >>> ((8 : Int32) &&& 31))).toInt8.toInt32)) &&& (255 : Int32)) <<< ((8 : Int32) &&& 31))), (.int (((nar .byte (((c1 >>> ((0 : Int32) &&& 31))).toInt8.toInt32)) &&& (255 : Int32)) <<< ((0 : Int32) &&& 31)))]))
  refine go_st (fun t k => XS.ior X5.here hx rfl (hb hby d8_57) rfl k) ?_
  show Go _ _ _ _ (T5.setTop (mkF m 58 #[rv ab, iv 3] [(.int ((((nar .byte (((c1 >>> ((0 : Int32) &&& 31))).toInt8.toInt32)) &&& (255 : Int32)) <<< ((0 : Int32) &&& 31)) ||| (((nar .byte (((c1 >>> ((8 : Int32) &&& 31))).toInt8.toInt32)) &&& (255 : Int32)) <<< ((8 : Int32) &&& 31))))]))
  refine go_st (fun t k => XS.i2c X5.here hx rfl (hb hby d8_58) rfl k) ?_
  show Go _ _ _ _ (T5.setTop (mkF m 59 #[rv ab, iv 3] [(.int ((((((nar .byte (((c1 >>> ((0 : Int32) &&& 31))).toInt8.toInt32)) &&& (255 : Int32)) <<< ((0 : Int32) &&& 31)) ||| (((nar .byte (((c1 >>> ((8 : Int32) &&& 31))).toInt8.toInt32)) &&& (255 : Int32)) <<< ((8 : Int32) &&& 31)))).toUInt32.toUInt16.toUInt32.toInt32))]))
  obtain ⟨fs, hr, hrun, hended, hW, hsame⟩ := X5.leave (v := some (.int (nar .char ((((((nar .byte (((c1 >>> ((0 : Int32) &&& 31))).toInt8.toInt32)) &&& (255 : Int32)) <<< ((0 : Int32) &&& 31)) ||| (((nar .byte (((c1 >>> ((8 : Int32) &&& 31))).toInt8.toInt32)) &&& (255 : Int32)) <<< ((8 : Int32) &&& 31)))).toUInt32.toUInt16.toUInt32.toInt32)))) (fun h => by rw [Bd.returns] at h; cases h)
  refine ⟨_, _, ?_, hrun, hended, _, _, rfl, ?_, ⟨_, rfl⟩, hW, hsame.mono (by decide) (by decide)⟩
  · exact retN X5 hx (t := .char) Bd.returns (by simp) (hb hby d8_59) hr
  · show Q_getc21 _ _ _ _ _ _ _ _ T5.heap _
    rw [e5]
    exact ⟨((((((nar .byte (((c1 >>> ((0 : Int32) &&& 31))).toInt8.toInt32)) &&& (255 : Int32)) <<< ((0 : Int32) &&& 31)) ||| (((nar .byte (((c1 >>> ((8 : Int32) &&& 31))).toInt8.toInt32)) &&& (255 : Int32)) <<< ((8 : Int32) &&& 31)))).toUInt32.toUInt16.toUInt32.toInt32), rfl, N0, rfl, (by rw [nar_c2]; exact ch_back r0.1 r0.2 hg)⟩
def Q_cmp_2 (Z : State) (ac : Addr) (kc : ClassId) (c0 : Int32) (c1 : Int32) (h0 : Heap) (n0 : Nat) (vR : Option Value) (h : Heap) (L : List Loc) : Prop := ∃ (t : Addr) (kb : ClassId) (N : Int32) (vs : List Value), vR = some (.ref t) ∧ Fr n0 L ∧ Keep h0 h [] ∧ n0 ≤ t ∧ h0.size ≤ t ∧ (Arv Z h t kb .byte N vs (.int (0 : Int32))) ∧ (¬ N = (0 : Int32))
theorem ef_cmp_2 (m : MethodId) (x0 : Addr) (x1 : Int32) (x2 : Int32) : entryFrame m #[(.ref x0), (.int x1), (.int x2)] 6 = mkF m 0 #[.val (.ref x0), .val (.int x1), .val (.int x2), .unset, .unset, .unset] [] := by first | (simp [entryFrame, mkF, argsToLocals, Value.category]; done) | rfl
set_option maxRecDepth 65536 in
set_option maxHeartbeats 40000000 in
theorem rm_cmp_2 (l : Launch) (Z : State) (a0 : Array Value) (hw : ∀ d ∈ tables_1, d.before a0 Z = true) (ws : List Jvm.Cond) (ac : Addr) (kc : ClassId) (c0 : Int32) (c1 : Int32) (h0 : Heap) (n0 : Nat) (Z0 : n0 ≤ h0.size) (H0 : Arv Z h0 ac kc .char (2 : Int32) [(.int c0), (.int c1)] (.int (0 : Int32))) (AD : Sta Z Z.heap "java/lang/StringUTF16" "$assertionsDisabled" "Z" (.int (1 : Int32))) (HB : Sta Z Z.heap "java/lang/StringUTF16" "HI_BYTE_SHIFT" "I" (.int (0 : Int32))) (LB : Sta Z Z.heap "java/lang/StringUTF16" "LO_BYTE_SHIFT" "I" (.int (8 : Int32))) (rg0 : 0 ≤ c0.toInt ∧ c0.toInt ≤ 65535) (rg1 : 0 ≤ c1.toInt ∧ c1.toInt ≤ 65535) (O0 : Old Z n0 h0) :
    MetFree l (⟨"java/lang/StringUTF16", "compress", "([CII)[B"⟩ : MethodName) (head1 (Jvm.Cond.code (⟨"java/lang/StringUTF16", "compress", "([CII)[B"⟩ : MethodName) jdk_52_method_16_code 6 (some (.array .byte)) :: ws) ({ frames := 3, cells := 2, slots := 6, locals := 40 } : Room)) (fun a U => a = #[(.ref ac), (.int 0), (.int 2)] ∧ Z.Warmed39 U.vm ∧ U.heap = h0) (fun _ _ _ _ _ => True) (fun _ U o U' => ∃ v L, o = .returned v ∧ Q_cmp_2 Z ac kc c0 c1 h0 n0 v U'.heap L ∧ FrameEnd U o U' L ({ frames := 3, cells := 2, slots := 6, locals := 40 } : Room).cells ({ frames := 3, cells := 2, slots := 6, locals := 40 } : Room).slots) := by
  refine MetFree.of_bodySF (plainFor_of_name pn_java_lang_StringUTF16) hisR ?_
  intro p e s m args below meth c s₁ Bd hml0 hP hK
  obtain ⟨rfl, hZ, hh⟩ := hP
  have hx := Bd.exec
  have hby := Bd.bytes
  have hml : c.maxLocals = 6 := hml0
  have hown : s.vm.findClass "java/lang/StringUTF16" = some m.cls := findClass_of_methodNamed Bd.named
  have hnm := (name_of_methodNamed Bd.named Bd.method).1
  have X0 : Stand p l e ({ frames := 3, cells := 2, slots := 6, locals := 40 } : Room) s m #[(.ref ac), (.int 0), (.int 2)] below meth c s₁ [] 0 0 := Stand.of_body Bd
  have e0 : s₁.heap = h0 := by rw [← hh, Bd.state]; rfl
  have N0 := Fr.nil n0
  refine go_st (fun t k => castTop (ef_cmp_2 m ac (0 : Int32) (2 : Int32)) k) ?_
  show Go _ _ _ _ (s₁.setTop (mkF m 0 #[rv ac, iv 0, iv 2, .unset, .unset, .unset] []))
  refine go_st (fun t k => XS.iloadN X0.here hx rfl (hb hby d9_0) rfl k) ?_
  show Go _ _ _ _ (s₁.setTop (mkF m 1 #[rv ac, iv 0, iv 2, .unset, .unset, .unset] [(.int 2)]))
  obtain ⟨T1, h1, kc1, X1, e1, E1, A1, st1⟩ := newP X0 hx hZ (aty := .byte) (w24 hw) e0 (g := (mkF m 1 #[rv ac, iv 0, iv 2, .unset, .unset, .unset] [(.int 2)])) rfl (hb hby d9_1) rfl (by decide) (cap := 2) (by decide) (by decide) (by decide) (by decide)
  obtain ⟨b1, gq1⟩ : ∃ z, z = h0.size := ⟨_, rfl⟩
  rw [← gq1] at A1 st1
  have f2 : Arv Z h1 b1 kc1 .byte (2 : Int32) [(.int 0), (.int 0)] (.int 0) := (Arv.new A1 (by decide)).pad (pad_rep [] (.int 0) 2)
  refine go_st (fun t k => st1 t k) ?_
  show Go _ _ _ _ (T1.setTop (mkF m 3 #[rv ac, iv 0, iv 2, .unset, .unset, .unset] [(.ref b1)]))
  refine go_st (fun t k => XS.astoreN X1.here hx rfl (hb hby d9_3) rfl rfl (l' := #[rv ac, iv 0, iv 2, rv b1, .unset, .unset]) rfl k) ?_
  show Go _ _ _ _ (T1.setTop (mkF m 4 #[rv ac, iv 0, iv 2, rv b1, .unset, .unset] []))
  refine go_st (fun t k => XS.aloadN X1.here hx rfl (hb hby d9_4) rfl rfl k) ?_
  show Go _ _ _ _ (T1.setTop (mkF m 5 #[rv ac, iv 0, iv 2, rv b1, .unset, .unset] [(.ref ac)]))
  refine go_st (fun t k => XS.iloadN X1.here hx rfl (hb hby d9_5) rfl k) ?_
  show Go _ _ _ _ (T1.setTop (mkF m 6 #[rv ac, iv 0, iv 2, rv b1, .unset, .unset] [(.int 0), (.ref ac)]))
  refine go_st (fun t k => XS.aloadN X1.here hx rfl (hb hby d9_6) rfl rfl k) ?_
  show Go _ _ _ _ (T1.setTop (mkF m 7 #[rv ac, iv 0, iv 2, rv b1, .unset, .unset] [(.ref b1), (.int 0), (.ref ac)]))
  refine go_st (fun t k => XS.iconst X1.here hx rfl (hb hby d9_7) k) ?_
  show Go _ _ _ _ (T1.setTop (mkF m 8 #[rv ac, iv 0, iv 2, rv b1, .unset, .unset] [(.int 0), (.ref b1), (.int 0), (.ref ac)]))
  refine go_st (fun t k => XS.iloadN X1.here hx rfl (hb hby d9_8) rfl k) ?_
  show Go _ _ _ _ (T1.setTop (mkF m 9 #[rv ac, iv 0, iv 2, rv b1, .unset, .unset] [(.int 2), (.int 0), (.ref b1), (.int 0), (.ref ac)]))
  have f3 : Arv Z h1 ac kc .char (2 : Int32) [(.int c0), (.int c1)] (.int (0 : Int32)) := (H0.ext E1)
  have g_b1 : n0 ≤ b1 := Nat.le_trans (Nat.le_trans Z0 (Nat.le_refl _)) (Nat.le_of_eq gq1.symm)
  have nq4 : ac ≠ b1 := Nat.ne_of_lt (Nat.lt_of_lt_of_le (Nat.lt_of_lt_of_le H0.lt (Nat.le_refl _)) (Nat.le_of_eq gq1.symm))
  obtain ⟨_, _, ⟨T5, L5, kk5, nn5⟩, -, X5, ⟨Lc5, hQ5, lq5, yq5, zq5⟩, st5⟩ := Jvm.LawKit.callS X1 hx (y := (⟨"java/lang/StringUTF16", "compress", "([CI[BII)I"⟩ : MethodName)) hown (mvT hZ (w25 hw)) (mvT hZ (w26 hw)) (mvT hZ (w22 hw)) (mvT hZ (w27 hw)) (by decide) (backOf (W := 0) (rm_cmp0_2 l Z a0 hw [] ac kc b1 kc1 c0 c1 (0 : Int32) (0 : Int32) h1 n0 (Nat.le_trans Z0 E1.1) f3 f2 g_b1 nq4) hZ (w27 hw) (w22 hw) (by decide) (by decide)) (g := (mkF m 9 #[rv ac, iv 0, iv 2, rv b1, .unset, .unset] [(.int 2), (.int 0), (.ref b1), (.int 0), (.ref ac)])) rfl (by rw [hml]; rfl) (argsL := [(.ref ac), (.int 0), (.ref b1), (.int 0), (.int 2)]) (rest := []) (lenOf pd_4 rfl) rfl (by show 2 * 0 + _ ≤ _; exact Nat.le_of_eq rfl) (hb hby d9_9) (fun _ _ => ⟨rfl, e1, (by decide : 1 + 0 ≤ _), (by decide : 2 + 0 ≤ _)⟩)
  dsimp only [Pt.U, Pt.locs, Pt.cells, Pt.slots] at X5 lq5 yq5 zq5 st5 hQ5
  subst lq5 yq5 zq5
  obtain ⟨h5, e5⟩ : ∃ z, T5.heap = z := ⟨_, rfl⟩
  rw [e5] at hQ5
  obtain ⟨r_5, vs_5, rfl, N5q, K5, hr_5, p5_1⟩ := hQ5
  have N5 := Fr.app N0 N5q
  refine go_st st5 ?_
  show Go _ _ _ _ (T5.setTop (mkF m 12 #[rv ac, iv 0, iv 2, rv b1, .unset, .unset] [(.int r_5)]))
  rcases hr_5 with rfl | ⟨rfl, hg6⟩ | ⟨rfl, hg6⟩
  · skip
    show Go _ _ _ _ (T5.setTop (mkF m 12 #[rv ac, iv 0, iv 2, rv b1, .unset, .unset] [(.int 2)]))
    refine go_st (fun t k => XS.istore X5.here hx rfl (hb hby d9_12) rfl (l' := #[rv ac, iv 0, iv 2, rv b1, iv 2, .unset]) rfl k) ?_
    show Go _ _ _ _ (T5.setTop (mkF m 14 #[rv ac, iv 0, iv 2, rv b1, iv 2, .unset] []))
    refine go_st (fun t k => XS.iload X5.here hx rfl (hb hby d9_14) rfl k) ?_
    show Go _ _ _ _ (T5.setTop (mkF m 16 #[rv ac, iv 0, iv 2, rv b1, iv 2, .unset] [(.int 2)]))
    refine go_st (fun t k => XS.iloadN X5.here hx rfl (hb hby d9_16) rfl k) ?_
    show Go _ _ _ _ (T5.setTop (mkF m 17 #[rv ac, iv 0, iv 2, rv b1, iv 2, .unset] [(.int 2), (.int 2)]))
    refine go_st (fun t k => XS.icmpYes X5.here hx rfl (pc0 := 17) (pc' := 57) rfl (hb hby d9_17) rfl (teq ((by decide) : (2 : Int32) = (2 : Int32))).1 (by decide) (by decide) k) ?_
    show Go _ _ _ _ (T5.setTop (mkF m 57 #[rv ac, iv 0, iv 2, rv b1, iv 2, .unset] []))
    refine go_st (fun t k => XS.aloadN X5.here hx rfl (hb hby d9_57) rfl rfl k) ?_
    show Go _ _ _ _ (T5.setTop (mkF m 58 #[rv ac, iv 0, iv 2, rv b1, iv 2, .unset] [(.ref b1)]))
    have ke7 : Keep h0 h1 [] := (Keep.ext (Keep.refl h0 []) E1)
    have ke8 : Keep h0 h5 [] := (Keep.trans ke7 K5 (allS (Or.inr (Nat.le_of_eq gq1.symm)) all0))
    obtain ⟨fs, hr, hrun, hended, hW, hsame⟩ := X5.leave (v := some (.ref b1)) (fun h => by rw [Bd.returns] at h; cases h)
    refine ⟨_, _, ?_, hrun, hended, _, _, rfl, ?_, ⟨_, rfl⟩, hW, hsame.mono (by decide) (by decide)⟩
    · exact retOut X5 hx Bd.returns rfl (Or.inr (Or.inr (Or.inr (Or.inr ⟨rfl, rfl, rfl⟩)))) (hb hby d9_58) hr
    · show Q_cmp_2 _ _ _ _ _ _ _ _ T5.heap _
      rw [e5]
      exact ⟨b1, kc1, (2 : Int32), vs_5, rfl, N5, ke8, g_b1, (Nat.le_of_eq gq1.symm), p5_1, (by decide)⟩
  · skip
    show Go _ _ _ _ (T5.setTop (mkF m 12 #[rv ac, iv 0, iv 2, rv b1, .unset, .unset] [(.int 0)]))
    refine go_st (fun t k => XS.istore X5.here hx rfl (hb hby d9_12) rfl (l' := #[rv ac, iv 0, iv 2, rv b1, iv 0, .unset]) rfl k) ?_
    show Go _ _ _ _ (T5.setTop (mkF m 14 #[rv ac, iv 0, iv 2, rv b1, iv 0, .unset] []))
    refine go_st (fun t k => XS.iload X5.here hx rfl (hb hby d9_14) rfl k) ?_
    show Go _ _ _ _ (T5.setTop (mkF m 16 #[rv ac, iv 0, iv 2, rv b1, iv 0, .unset] [(.int 0)]))
    refine go_st (fun t k => XS.iloadN X5.here hx rfl (hb hby d9_16) rfl k) ?_
    show Go _ _ _ _ (T5.setTop (mkF m 17 #[rv ac, iv 0, iv 2, rv b1, iv 0, .unset] [(.int 2), (.int 0)]))
    refine go_st (fun t k => XS.icmpNo X5.here hx rfl (hb hby d9_17) rfl (feq ((by decide) : ¬ ((0 : Int32) = (2 : Int32)))).1 k) ?_
    show Go _ _ _ _ (T5.setTop (mkF m 20 #[rv ac, iv 0, iv 2, rv b1, iv 0, .unset] []))
    refine go_st (fun t k => XS.aloadN X5.here hx rfl (hb hby d9_20) rfl rfl k) ?_
    show Go _ _ _ _ (T5.setTop (mkF m 21 #[rv ac, iv 0, iv 2, rv b1, iv 0, .unset] [(.ref ac)]))
    refine go_st (fun t k => XS.iloadN X5.here hx rfl (hb hby d9_21) rfl k) ?_
    show Go _ _ _ _ (T5.setTop (mkF m 22 #[rv ac, iv 0, iv 2, rv b1, iv 0, .unset] [(.int 0), (.ref ac)]))
    refine go_st (fun t k => XS.iloadN X5.here hx rfl (hb hby d9_22) rfl k) ?_
    show Go _ _ _ _ (T5.setTop (mkF m 23 #[rv ac, iv 0, iv 2, rv b1, iv 0, .unset] [(.int 2), (.int 0), (.ref ac)]))
    have f9 : Arv Z h5 ac kc .char (2 : Int32) [(.int c0), (.int c1)] (.int (0 : Int32)) := (f3.keep K5 (ninS nq4 nin0))
    have oe10 : Old Z n0 h1 := (Old.ext O0 E1)
    have oe11 : Old Z n0 h5 := (Old.keep oe10 K5 (allS g_b1 all0))
    have sz12 : h0.size ≤ h5.size := (Nat.le_trans E1.1 K5.1)
    obtain ⟨_, _, ⟨T13, L13, kk13, nn13⟩, -, X13, ⟨Lc13, hQ13, lq13, yq13, zq13⟩, st13⟩ := Jvm.LawKit.callS X5 hx (y := (⟨"java/lang/StringUTF16", "toBytes", "([CII)[B"⟩ : MethodName)) hown (mvT hZ (w61 hw)) (mvT hZ (w62 hw)) (mvT hZ (w22 hw)) (mvT hZ (w63 hw)) (by decide) (backOf (W := 0) (rm_tob2 l Z a0 hw [] ac kc c0 c1 h5 n0 (Nat.le_trans Z0 sz12) f9 AD HB LB oe11) hZ (w63 hw) (w22 hw) (by decide) (by decide)) (g := (mkF m 23 #[rv ac, iv 0, iv 2, rv b1, iv 0, .unset] [(.int 2), (.int 0), (.ref ac)])) rfl (by rw [hml]; rfl) (argsL := [(.ref ac), (.int 0), (.int 2)]) (rest := []) (lenOf pd_5 rfl) rfl (by show 2 * 0 + _ ≤ _; exact Nat.le_of_eq rfl) (hb hby d9_23) (fun _ _ => ⟨rfl, e5, (by decide : 1 + 1 ≤ _), (by decide : 2 + 4 ≤ _)⟩)
    dsimp only [Pt.U, Pt.locs, Pt.cells, Pt.slots] at X13 lq13 yq13 zq13 st13 hQ13
    subst lq13 yq13 zq13
    obtain ⟨h13, e13⟩ : ∃ z, T13.heap = z := ⟨_, rfl⟩
    rw [e13] at hQ13
    obtain ⟨t_13, kb_13, rfl, N13q, K13, gf13_0, lf13_0, p13_1⟩ := hQ13
    have N13 := Fr.app N5 N13q
    refine go_st st13 ?_
    show Go _ _ _ _ (T13.setTop (mkF m 26 #[rv ac, iv 0, iv 2, rv b1, iv 0, .unset] [(.ref t_13)]))
    refine go_st (fun t k => XS.astore X13.here hx rfl (hb hby d9_26) rfl rfl (l' := #[rv ac, iv 0, iv 2, rv b1, iv 0, rv t_13]) rfl k) ?_
    show Go _ _ _ _ (T13.setTop (mkF m 28 #[rv ac, iv 0, iv 2, rv b1, iv 0, rv t_13] []))
    refine go_st (fun t k => XS.aload X13.here hx rfl (hb hby d9_28) rfl rfl k) ?_
    show Go _ _ _ _ (T13.setTop (mkF m 30 #[rv ac, iv 0, iv 2, rv b1, iv 0, rv t_13] [(.ref t_13)]))
    refine go_st (fun t k => XS.iload X13.here hx rfl (hb hby d9_30) rfl k) ?_
    show Go _ _ _ _ (T13.setTop (mkF m 32 #[rv ac, iv 0, iv 2, rv b1, iv 0, rv t_13] [(.int 0), (.ref t_13)]))
    have oe14 : Old Z n0 h13 := (Old.keep oe11 K13 all0)
    have sz15 : h0.size ≤ h13.size := (Nat.le_trans sz12 K13.1)
    obtain ⟨_, _, ⟨T16, L16, kk16, nn16⟩, -, X16, ⟨Lc16, hQ16, lq16, yq16, zq16⟩, st16⟩ := Jvm.LawKit.callS X13 hx (y := (⟨"java/lang/StringUTF16", "getChar", "([BI)C"⟩ : MethodName)) hown (mvT hZ (w77 hw)) (mvT hZ (w78 hw)) (mvT hZ (w22 hw)) (mvT hZ (w79 hw)) (by decide) (backOf (W := 0) (rm_getc20 l Z a0 hw [] t_13 kb_13 c0 c1 h13 n0 (Nat.le_trans Z0 sz15) p13_1 AD HB LB rg0 hg6 oe14) hZ (w79 hw) (w22 hw) (by decide) (by decide)) (g := (mkF m 32 #[rv ac, iv 0, iv 2, rv b1, iv 0, rv t_13] [(.int 0), (.ref t_13)])) rfl (by rw [hml]; rfl) (argsL := [(.ref t_13), (.int 0)]) (rest := []) (lenOf pd_6 rfl) rfl (by show 2 * 0 + _ ≤ _; exact Nat.le_of_eq rfl) (hb hby d9_32) (fun _ _ => ⟨rfl, e13, (by decide : 2 + 0 ≤ _), (by decide : 6 + 0 ≤ _)⟩)
    dsimp only [Pt.U, Pt.locs, Pt.cells, Pt.slots] at X16 lq16 yq16 zq16 st16 hQ16
    subst lq16 yq16 zq16
    obtain ⟨h16, e16⟩ : ∃ z, T16.heap = z := ⟨_, rfl⟩
    rw [e16] at hQ16
    obtain ⟨r_16, rfl, N16q, he16, hr_16⟩ := hQ16
    have N16 := Fr.app N13 N16q
    rw [he16] at e16
    refine go_st st16 ?_
    show Go _ _ _ _ (T16.setTop (mkF m 35 #[rv ac, iv 0, iv 2, rv b1, iv 0, rv t_13] [(.int (nar .char r_16))]))
    refine go_st (fun t k => XS.sipush X16.here hx rfl (hb hby d9_35) k) ?_
    show Go _ _ _ _ (T16.setTop (mkF m 38 #[rv ac, iv 0, iv 2, rv b1, iv 0, rv t_13] [(.int 255), (.int (nar .char r_16))]))
    refine go_st (fun t k => XS.icmpYes X16.here hx rfl (pc0 := 38) (pc' := 54) rfl (hb hby d9_38) rfl (tlt (hr_16 : (255 : Int32) < (nar .char r_16))).2.2.1 (by decide) (by decide) k) ?_
    show Go _ _ _ _ (T16.setTop (mkF m 54 #[rv ac, iv 0, iv 2, rv b1, iv 0, rv t_13] []))
    refine go_st (fun t k => XS.aload X16.here hx rfl (hb hby d9_54) rfl rfl k) ?_
    show Go _ _ _ _ (T16.setTop (mkF m 56 #[rv ac, iv 0, iv 2, rv b1, iv 0, rv t_13] [(.ref t_13)]))
    have ke17 : Keep h0 h1 [] := (Keep.ext (Keep.refl h0 []) E1)
    have ke18 : Keep h0 h5 [] := (Keep.trans ke17 K5 (allS (Or.inr (Nat.le_of_eq gq1.symm)) all0))
    have ke19 : Keep h0 h13 [] := (Keep.trans ke18 K13 all0)
    obtain ⟨fs, hr, hrun, hended, hW, hsame⟩ := X16.leave (v := some (.ref t_13)) (fun h => by rw [Bd.returns] at h; cases h)
    refine ⟨_, _, ?_, hrun, hended, _, _, rfl, ?_, ⟨_, rfl⟩, hW, hsame.mono (by decide) (by decide)⟩
    · exact retOut X16 hx Bd.returns rfl (Or.inr (Or.inr (Or.inr (Or.inr ⟨rfl, rfl, rfl⟩)))) (hb hby d9_56) hr
    · show Q_cmp_2 _ _ _ _ _ _ _ _ T16.heap _
      rw [e16]
      exact ⟨t_13, kb_13, (4 : Int32), [(.int (nar .byte (((c0 >>> ((0 : Int32) &&& 31))).toInt8.toInt32))), (.int (nar .byte (((c0 >>> ((8 : Int32) &&& 31))).toInt8.toInt32))), (.int (nar .byte (((c1 >>> ((0 : Int32) &&& 31))).toInt8.toInt32))), (.int (nar .byte (((c1 >>> ((8 : Int32) &&& 31))).toInt8.toInt32)))], rfl, N16, ke19, gf13_0, (Nat.le_trans sz12 lf13_0), p13_1, (by decide)⟩
  · skip
    show Go _ _ _ _ (T5.setTop (mkF m 12 #[rv ac, iv 0, iv 2, rv b1, .unset, .unset] [(.int 1)]))
    refine go_st (fun t k => XS.istore X5.here hx rfl (hb hby d9_12) rfl (l' := #[rv ac, iv 0, iv 2, rv b1, iv 1, .unset]) rfl k) ?_
    show Go _ _ _ _ (T5.setTop (mkF m 14 #[rv ac, iv 0, iv 2, rv b1, iv 1, .unset] []))
    refine go_st (fun t k => XS.iload X5.here hx rfl (hb hby d9_14) rfl k) ?_
    show Go _ _ _ _ (T5.setTop (mkF m 16 #[rv ac, iv 0, iv 2, rv b1, iv 1, .unset] [(.int 1)]))
    refine go_st (fun t k => XS.iloadN X5.here hx rfl (hb hby d9_16) rfl k) ?_
    show Go _ _ _ _ (T5.setTop (mkF m 17 #[rv ac, iv 0, iv 2, rv b1, iv 1, .unset] [(.int 2), (.int 1)]))
    refine go_st (fun t k => XS.icmpNo X5.here hx rfl (hb hby d9_17) rfl (feq ((by decide) : ¬ ((1 : Int32) = (2 : Int32)))).1 k) ?_
    show Go _ _ _ _ (T5.setTop (mkF m 20 #[rv ac, iv 0, iv 2, rv b1, iv 1, .unset] []))
    refine go_st (fun t k => XS.aloadN X5.here hx rfl (hb hby d9_20) rfl rfl k) ?_
    show Go _ _ _ _ (T5.setTop (mkF m 21 #[rv ac, iv 0, iv 2, rv b1, iv 1, .unset] [(.ref ac)]))
    refine go_st (fun t k => XS.iloadN X5.here hx rfl (hb hby d9_21) rfl k) ?_
    show Go _ _ _ _ (T5.setTop (mkF m 22 #[rv ac, iv 0, iv 2, rv b1, iv 1, .unset] [(.int 0), (.ref ac)]))
    refine go_st (fun t k => XS.iloadN X5.here hx rfl (hb hby d9_22) rfl k) ?_
    show Go _ _ _ _ (T5.setTop (mkF m 23 #[rv ac, iv 0, iv 2, rv b1, iv 1, .unset] [(.int 2), (.int 0), (.ref ac)]))
    have f20 : Arv Z h5 ac kc .char (2 : Int32) [(.int c0), (.int c1)] (.int (0 : Int32)) := (f3.keep K5 (ninS nq4 nin0))
    have oe21 : Old Z n0 h1 := (Old.ext O0 E1)
    have oe22 : Old Z n0 h5 := (Old.keep oe21 K5 (allS g_b1 all0))
    have sz23 : h0.size ≤ h5.size := (Nat.le_trans E1.1 K5.1)
    obtain ⟨_, _, ⟨T24, L24, kk24, nn24⟩, -, X24, ⟨Lc24, hQ24, lq24, yq24, zq24⟩, st24⟩ := Jvm.LawKit.callS X5 hx (y := (⟨"java/lang/StringUTF16", "toBytes", "([CII)[B"⟩ : MethodName)) hown (mvT hZ (w61 hw)) (mvT hZ (w62 hw)) (mvT hZ (w22 hw)) (mvT hZ (w63 hw)) (by decide) (backOf (W := 0) (rm_tob2 l Z a0 hw [] ac kc c0 c1 h5 n0 (Nat.le_trans Z0 sz23) f20 AD HB LB oe22) hZ (w63 hw) (w22 hw) (by decide) (by decide)) (g := (mkF m 23 #[rv ac, iv 0, iv 2, rv b1, iv 1, .unset] [(.int 2), (.int 0), (.ref ac)])) rfl (by rw [hml]; rfl) (argsL := [(.ref ac), (.int 0), (.int 2)]) (rest := []) (lenOf pd_5 rfl) rfl (by show 2 * 0 + _ ≤ _; exact Nat.le_of_eq rfl) (hb hby d9_23) (fun _ _ => ⟨rfl, e5, (by decide : 1 + 1 ≤ _), (by decide : 2 + 4 ≤ _)⟩)
    dsimp only [Pt.U, Pt.locs, Pt.cells, Pt.slots] at X24 lq24 yq24 zq24 st24 hQ24
    subst lq24 yq24 zq24
    obtain ⟨h24, e24⟩ : ∃ z, T24.heap = z := ⟨_, rfl⟩
    rw [e24] at hQ24
    obtain ⟨t_24, kb_24, rfl, N24q, K24, gf24_0, lf24_0, p24_1⟩ := hQ24
    have N24 := Fr.app N5 N24q
    refine go_st st24 ?_
    show Go _ _ _ _ (T24.setTop (mkF m 26 #[rv ac, iv 0, iv 2, rv b1, iv 1, .unset] [(.ref t_24)]))
    refine go_st (fun t k => XS.astore X24.here hx rfl (hb hby d9_26) rfl rfl (l' := #[rv ac, iv 0, iv 2, rv b1, iv 1, rv t_24]) rfl k) ?_
    show Go _ _ _ _ (T24.setTop (mkF m 28 #[rv ac, iv 0, iv 2, rv b1, iv 1, rv t_24] []))
    refine go_st (fun t k => XS.aload X24.here hx rfl (hb hby d9_28) rfl rfl k) ?_
    show Go _ _ _ _ (T24.setTop (mkF m 30 #[rv ac, iv 0, iv 2, rv b1, iv 1, rv t_24] [(.ref t_24)]))
    refine go_st (fun t k => XS.iload X24.here hx rfl (hb hby d9_30) rfl k) ?_
    show Go _ _ _ _ (T24.setTop (mkF m 32 #[rv ac, iv 0, iv 2, rv b1, iv 1, rv t_24] [(.int 1), (.ref t_24)]))
    have oe25 : Old Z n0 h24 := (Old.keep oe22 K24 all0)
    have sz26 : h0.size ≤ h24.size := (Nat.le_trans sz23 K24.1)
    obtain ⟨_, _, ⟨T27, L27, kk27, nn27⟩, -, X27, ⟨Lc27, hQ27, lq27, yq27, zq27⟩, st27⟩ := Jvm.LawKit.callS X24 hx (y := (⟨"java/lang/StringUTF16", "getChar", "([BI)C"⟩ : MethodName)) hown (mvT hZ (w77 hw)) (mvT hZ (w78 hw)) (mvT hZ (w22 hw)) (mvT hZ (w79 hw)) (by decide) (backOf (W := 0) (rm_getc21 l Z a0 hw [] t_24 kb_24 c0 c1 h24 n0 (Nat.le_trans Z0 sz26) p24_1 AD HB LB rg1 hg6 oe25) hZ (w79 hw) (w22 hw) (by decide) (by decide)) (g := (mkF m 32 #[rv ac, iv 0, iv 2, rv b1, iv 1, rv t_24] [(.int 1), (.ref t_24)])) rfl (by rw [hml]; rfl) (argsL := [(.ref t_24), (.int 1)]) (rest := []) (lenOf pd_6 rfl) rfl (by show 2 * 0 + _ ≤ _; exact Nat.le_of_eq rfl) (hb hby d9_32) (fun _ _ => ⟨rfl, e24, (by decide : 2 + 0 ≤ _), (by decide : 6 + 0 ≤ _)⟩)
    dsimp only [Pt.U, Pt.locs, Pt.cells, Pt.slots] at X27 lq27 yq27 zq27 st27 hQ27
    subst lq27 yq27 zq27
    obtain ⟨h27, e27⟩ : ∃ z, T27.heap = z := ⟨_, rfl⟩
    rw [e27] at hQ27
    obtain ⟨r_27, rfl, N27q, he27, hr_27⟩ := hQ27
    have N27 := Fr.app N24 N27q
    rw [he27] at e27
    refine go_st st27 ?_
    show Go _ _ _ _ (T27.setTop (mkF m 35 #[rv ac, iv 0, iv 2, rv b1, iv 1, rv t_24] [(.int (nar .char r_27))]))
    refine go_st (fun t k => XS.sipush X27.here hx rfl (hb hby d9_35) k) ?_
    show Go _ _ _ _ (T27.setTop (mkF m 38 #[rv ac, iv 0, iv 2, rv b1, iv 1, rv t_24] [(.int 255), (.int (nar .char r_27))]))
    refine go_st (fun t k => XS.icmpYes X27.here hx rfl (pc0 := 38) (pc' := 54) rfl (hb hby d9_38) rfl (tlt (hr_27 : (255 : Int32) < (nar .char r_27))).2.2.1 (by decide) (by decide) k) ?_
    show Go _ _ _ _ (T27.setTop (mkF m 54 #[rv ac, iv 0, iv 2, rv b1, iv 1, rv t_24] []))
    refine go_st (fun t k => XS.aload X27.here hx rfl (hb hby d9_54) rfl rfl k) ?_
    show Go _ _ _ _ (T27.setTop (mkF m 56 #[rv ac, iv 0, iv 2, rv b1, iv 1, rv t_24] [(.ref t_24)]))
    have ke28 : Keep h0 h1 [] := (Keep.ext (Keep.refl h0 []) E1)
    have ke29 : Keep h0 h5 [] := (Keep.trans ke28 K5 (allS (Or.inr (Nat.le_of_eq gq1.symm)) all0))
    have ke30 : Keep h0 h24 [] := (Keep.trans ke29 K24 all0)
    obtain ⟨fs, hr, hrun, hended, hW, hsame⟩ := X27.leave (v := some (.ref t_24)) (fun h => by rw [Bd.returns] at h; cases h)
    refine ⟨_, _, ?_, hrun, hended, _, _, rfl, ?_, ⟨_, rfl⟩, hW, hsame.mono (by decide) (by decide)⟩
    · exact retOut X27 hx Bd.returns rfl (Or.inr (Or.inr (Or.inr (Or.inr ⟨rfl, rfl, rfl⟩)))) (hb hby d9_56) hr
    · show Q_cmp_2 _ _ _ _ _ _ _ _ T27.heap _
      rw [e27]
      exact ⟨t_24, kb_24, (4 : Int32), [(.int (nar .byte (((c0 >>> ((0 : Int32) &&& 31))).toInt8.toInt32))), (.int (nar .byte (((c0 >>> ((8 : Int32) &&& 31))).toInt8.toInt32))), (.int (nar .byte (((c1 >>> ((0 : Int32) &&& 31))).toInt8.toInt32))), (.int (nar .byte (((c1 >>> ((8 : Int32) &&& 31))).toInt8.toInt32)))], rfl, N27, ke30, gf24_0, (Nat.le_trans sz23 lf24_0), p24_1, (by decide)⟩
def Q_s4_2 (Z : State) (a1 : Addr) (ac : Addr) (kc : ClassId) (c0 : Int32) (c1 : Int32) (G1 : Int32) (h0 : Heap) (n0 : Nat) (vR : Option Value) (h : Heap) (L : List Loc) : Prop := ∃ (t : Addr) (kb : ClassId) (N : Int32) (vs : List Value), vR = none ∧ Fr n0 L ∧ Keep h0 h [a1] ∧ n0 ≤ t ∧ h0.size ≤ t ∧ (Exa Z h a1 "java/lang/String") ∧ (Fld Z h a1 "java/lang/String" "value" "[B" (.ref t)) ∧ (Arv Z h t kb .byte N vs (.int (0 : Int32))) ∧ (¬ N = (0 : Int32))
theorem ef_s4_2 (m : MethodId) (x0 : Addr) (x1 : Addr) (x2 : Int32) (x3 : Int32) : entryFrame m #[(.ref x0), (.ref x1), (.int x2), (.int x3), .null] 6 = mkF m 0 #[.val (.ref x0), .val (.ref x1), .val (.int x2), .val (.int x3), .val .null, .unset] [] := by first | (simp [entryFrame, mkF, argsToLocals, Value.category]; done) | rfl
set_option maxRecDepth 65536 in
set_option maxHeartbeats 40000000 in
theorem rm_s4_2 (l : Launch) (Z : State) (a0 : Array Value) (hw : ∀ d ∈ tables_1, d.before a0 Z = true) (ws : List Jvm.Cond) (a1 : Addr) (ac : Addr) (kc : ClassId) (c0 : Int32) (c1 : Int32) (G1 : Int32) (h0 : Heap) (n0 : Nat) (Z0 : n0 ≤ h0.size) (H0 : Exa Z h0 a1 "java/lang/String") (H1 : Fld Z h0 a1 "java/lang/String" "value" "[B" .null) (H2 : Fld Z h0 a1 "java/lang/String" "coder" "B" (.int 0)) (H3 : Arv Z h0 ac kc .char (2 : Int32) [(.int c0), (.int c1)] (.int (0 : Int32))) (g_a1 : n0 ≤ a1) (ne_a1_ac : a1 ≠ ac) (AD : Sta Z Z.heap "java/lang/StringUTF16" "$assertionsDisabled" "Z" (.int (1 : Int32))) (HB : Sta Z Z.heap "java/lang/StringUTF16" "HI_BYTE_SHIFT" "I" (.int (0 : Int32))) (LB : Sta Z Z.heap "java/lang/StringUTF16" "LO_BYTE_SHIFT" "I" (.int (8 : Int32))) (CS : Sta Z Z.heap "java/lang/String" "COMPACT_STRINGS" "Z" (.int G1)) (CSn : ¬ (G1 = (0 : Int32))) (rg0 : 0 ≤ c0.toInt ∧ c0.toInt ≤ 65535) (rg1 : 0 ≤ c1.toInt ∧ c1.toInt ≤ 65535) (O0 : Old Z n0 h0) :
    MetFree l (⟨"java/lang/String", "<init>", "([CIILjava/lang/Void;)V"⟩ : MethodName) (head1 (Jvm.Cond.code (⟨"java/lang/String", "<init>", "([CIILjava/lang/Void;)V"⟩ : MethodName) jdk_42_method_149_code 6 none :: ws) ({ frames := 4, cells := 2, slots := 6, locals := 57 } : Room)) (fun a U => a = #[(.ref a1), (.ref ac), (.int 0), (.int 2), .null] ∧ Z.Warmed39 U.vm ∧ U.heap = h0) (fun _ _ _ _ _ => True) (fun _ U o U' => ∃ v L, o = .returned v ∧ Q_s4_2 Z a1 ac kc c0 c1 G1 h0 n0 v U'.heap L ∧ FrameEnd U o U' L ({ frames := 4, cells := 2, slots := 6, locals := 57 } : Room).cells ({ frames := 4, cells := 2, slots := 6, locals := 57 } : Room).slots) := by
  refine MetFree.of_bodySF (plainFor_of_name pn_java_lang_String) hisR ?_
  intro p e s m args below meth c s₁ Bd hml0 hP hK
  obtain ⟨rfl, hZ, hh⟩ := hP
  have hx := Bd.exec
  have hby := Bd.bytes
  have hml : c.maxLocals = 6 := hml0
  have hown : s.vm.findClass "java/lang/String" = some m.cls := findClass_of_methodNamed Bd.named
  have hnm := (name_of_methodNamed Bd.named Bd.method).1
  have X0 : Stand p l e ({ frames := 4, cells := 2, slots := 6, locals := 57 } : Room) s m #[(.ref a1), (.ref ac), (.int 0), (.int 2), .null] below meth c s₁ [] 0 0 := Stand.of_body Bd
  have e0 : s₁.heap = h0 := by rw [← hh, Bd.state]; rfl
  have N0 := Fr.nil n0
  refine go_st (fun t k => castTop (ef_s4_2 m a1 ac (0 : Int32) (2 : Int32)) k) ?_
  show Go _ _ _ _ (s₁.setTop (mkF m 0 #[rv a1, rv ac, iv 0, iv 2, .val .null, .unset] []))
  refine go_st (fun t k => XS.aloadN X0.here hx rfl (hb hby d0_0) rfl rfl k) ?_
  show Go _ _ _ _ (s₁.setTop (mkF m 1 #[rv a1, rv ac, iv 0, iv 2, .val .null, .unset] [(.ref a1)]))
  obtain ⟨T1, X1, e1, st1⟩ := initO X0 hx hZ hown (w16 hw) (w17 hw) (w18 hw) e0 (g := (mkF m 1 #[rv a1, rv ac, iv 0, iv 2, .val .null, .unset] [(.ref a1)])) rfl (by rw [hml]; rfl) rfl (hb hby d0_1) (by decide) (W := 0) (by show 2 * 0 + _ ≤ _; exact Nat.le_of_eq rfl) (by decide)
  refine go_st (fun t k => st1 t k) ?_
  show Go _ _ _ _ (T1.setTop (mkF m 4 #[rv a1, rv ac, iv 0, iv 2, .val .null, .unset] []))
  refine go_st (fun t k => XS.iloadN X1.here hx rfl (hb hby d0_4) rfl k) ?_
  show Go _ _ _ _ (T1.setTop (mkF m 5 #[rv a1, rv ac, iv 0, iv 2, .val .null, .unset] [(.int 2)]))
  refine go_st (fun t k => XS.ifYes X1.here hx rfl (pc0 := 5) (pc' := 27) rfl (hb hby d0_5) rfl ((if0 _ _).trans (feq ((by decide) : ¬ ((2 : Int32) = (0 : Int32)))).2) (by decide) (by decide) k) ?_
  show Go _ _ _ _ (T1.setTop (mkF m 27 #[rv a1, rv ac, iv 0, iv 2, .val .null, .unset] []))
  obtain ⟨T2, X2, e2, st2⟩ := getS2 X1 hx hZ hown (host := "") (Or.inl (w19 hw)) Via.refl e1 (Sta.ext O0.2 CS) (g := (mkF m 27 #[rv a1, rv ac, iv 0, iv 2, .val .null, .unset] [])) rfl (hb hby d0_27)
  refine go_st (fun t k => st2 t k) ?_
  show Go _ _ _ _ (T2.setTop (mkF m 30 #[rv a1, rv ac, iv 0, iv 2, .val .null, .unset] [(.int G1)]))
  refine go_st (fun t k => XS.ifNo X2.here hx rfl (hb hby d0_30) rfl ((if0 _ _).trans (feq (CSn : ¬ (G1 = (0 : Int32)))).1) k) ?_
  show Go _ _ _ _ (T2.setTop (mkF m 33 #[rv a1, rv ac, iv 0, iv 2, .val .null, .unset] []))
  refine go_st (fun t k => XS.aloadN X2.here hx rfl (hb hby d0_33) rfl rfl k) ?_
  show Go _ _ _ _ (T2.setTop (mkF m 34 #[rv a1, rv ac, iv 0, iv 2, .val .null, .unset] [(.ref ac)]))
  refine go_st (fun t k => XS.iloadN X2.here hx rfl (hb hby d0_34) rfl k) ?_
  show Go _ _ _ _ (T2.setTop (mkF m 35 #[rv a1, rv ac, iv 0, iv 2, .val .null, .unset] [(.int 0), (.ref ac)]))
  refine go_st (fun t k => XS.iloadN X2.here hx rfl (hb hby d0_35) rfl k) ?_
  show Go _ _ _ _ (T2.setTop (mkF m 36 #[rv a1, rv ac, iv 0, iv 2, .val .null, .unset] [(.int 2), (.int 0), (.ref ac)]))
  obtain ⟨_, _, ⟨T3, L3, kk3, nn3⟩, -, X3, ⟨Lc3, hQ3, lq3, yq3, zq3⟩, st3⟩ := Jvm.LawKit.callS X2 hx (y := (⟨"java/lang/StringUTF16", "compress", "([CII)[B"⟩ : MethodName)) hown (mvT hZ (w20 hw)) (mvT hZ (w21 hw)) (mvT hZ (w22 hw)) (mvT hZ (w23 hw)) (by decide) (backOf (W := 0) (rm_cmp_2 l Z a0 hw [] ac kc c0 c1 h0 n0 (Nat.le_trans Z0 (Nat.le_refl _)) H3 AD HB LB rg0 rg1 O0) hZ (w23 hw) (w22 hw) (by decide) (by decide)) (g := (mkF m 36 #[rv a1, rv ac, iv 0, iv 2, .val .null, .unset] [(.int 2), (.int 0), (.ref ac)])) rfl (by rw [hml]; rfl) (argsL := [(.ref ac), (.int 0), (.int 2)]) (rest := []) (lenOf pd_5 rfl) rfl (by show 2 * 0 + _ ≤ _; exact Nat.le_of_eq rfl) (hb hby d0_36) (fun _ _ => ⟨rfl, e2, (by decide : 0 + 2 ≤ _), (by decide : 0 + 6 ≤ _)⟩)
  dsimp only [Pt.U, Pt.locs, Pt.cells, Pt.slots] at X3 lq3 yq3 zq3 st3 hQ3
  subst lq3 yq3 zq3
  obtain ⟨h3, e3⟩ : ∃ z, T3.heap = z := ⟨_, rfl⟩
  rw [e3] at hQ3
  obtain ⟨t_3, kb_3, N_3, vs_3, rfl, N3q, K3, gf3_0, lf3_0, p3_1, hN_3⟩ := hQ3
  have N3 := Fr.app N0 N3q
  refine go_st st3 ?_
  show Go _ _ _ _ (T3.setTop (mkF m 39 #[rv a1, rv ac, iv 0, iv 2, .val .null, .unset] [(.ref t_3)]))
  refine go_st (fun t k => XS.astore X3.here hx rfl (hb hby d0_39) rfl rfl (l' := #[rv a1, rv ac, iv 0, iv 2, .val .null, rv t_3]) rfl k) ?_
  show Go _ _ _ _ (T3.setTop (mkF m 41 #[rv a1, rv ac, iv 0, iv 2, .val .null, rv t_3] []))
  refine go_st (fun t k => XS.aloadN X3.here hx rfl (hb hby d0_41) rfl rfl k) ?_
  show Go _ _ _ _ (T3.setTop (mkF m 42 #[rv a1, rv ac, iv 0, iv 2, .val .null, rv t_3] [(.ref a1)]))
  refine go_st (fun t k => XS.aload X3.here hx rfl (hb hby d0_42) rfl rfl k) ?_
  show Go _ _ _ _ (T3.setTop (mkF m 44 #[rv a1, rv ac, iv 0, iv 2, .val .null, rv t_3] [(.ref t_3), (.ref a1)]))
  refine go_st (fun t k => XS.iloadN X3.here hx rfl (hb hby d0_44) rfl k) ?_
  show Go _ _ _ _ (T3.setTop (mkF m 45 #[rv a1, rv ac, iv 0, iv 2, .val .null, rv t_3] [(.int 2), (.ref t_3), (.ref a1)]))
  obtain ⟨_, _, ⟨T4, L4, kk4, nn4⟩, -, X4, ⟨Lc4, hQ4, lq4, yq4, zq4⟩, st4⟩ := Jvm.LawKit.callS X3 hx (y := (⟨"java/lang/StringUTF16", "coderFromArrayLen", "([BI)B"⟩ : MethodName)) hown (mvT hZ (w28 hw)) (mvT hZ (w29 hw)) (mvT hZ (w22 hw)) (mvT hZ (w30 hw)) (by decide) (backOf (W := 1) (rm_cod l Z a0 hw [] t_3 kb_3 N_3 vs_3 (2 : Int32) h3 n0 (Nat.le_trans Z0 K3.1) p3_1) hZ (w30 hw) (w22 hw) (by decide) (by decide)) (g := (mkF m 45 #[rv a1, rv ac, iv 0, iv 2, .val .null, rv t_3] [(.int 2), (.ref t_3), (.ref a1)])) rfl (by rw [hml]; rfl) (argsL := [(.ref t_3), (.int 2)]) (rest := [(.ref a1)]) (lenOf pd_7 rfl) rfl (by show 2 * 0 + _ ≤ _; exact Nat.le_of_eq rfl) (hb hby d0_45) (fun _ _ => ⟨rfl, e3, (by decide : 2 + 0 ≤ _), (by decide : 6 + 0 ≤ _)⟩)
  dsimp only [Pt.U, Pt.locs, Pt.cells, Pt.slots] at X4 lq4 yq4 zq4 st4 hQ4
  subst lq4 yq4 zq4
  obtain ⟨h4, e4⟩ : ∃ z, T4.heap = z := ⟨_, rfl⟩
  rw [e4] at hQ4
  obtain ⟨r_4, rfl, N4q, he4⟩ := hQ4
  have N4 := Fr.app N3 N4q
  rw [he4] at e4
  refine go_st st4 ?_
  show Go _ _ _ _ (T4.setTop (mkF m 48 #[rv a1, rv ac, iv 0, iv 2, .val .null, rv t_3] [(.int (nar .byte r_4)), (.ref a1)]))
  have f5 : Fld Z h3 a1 "java/lang/String" "coder" "B" (.int 0) := (H2.keep K3 nin0)
  have f6 : Exa Z h3 a1 "java/lang/String" := (H0.keep K3)
  obtain ⟨T7, h7, X7, e7, W7, st7⟩ := putFN X4 hx hZ hown (w31 hw) Via.refl e4 f5 f6 (Or.inr ⟨(w32 hw), rfl, hnm⟩) (w7 hw) (ty := .byte) (v' := (.int (nar .byte (nar .byte r_4)))) (by decide) rfl (fits_nar_byte _) (g := (mkF m 48 #[rv a1, rv ac, iv 0, iv 2, .val .null, rv t_3] [(.int (nar .byte r_4)), (.ref a1)])) rfl rfl (hb hby d0_48)
  have N7 := Fr.snoc X7 N4 g_a1
  have f8 : Fld Z h7 a1 "java/lang/String" "coder" "B" (.int (nar .byte (nar .byte r_4))) := f5.same W7
  refine go_st (fun t k => st7 t k) ?_
  show Go _ _ _ _ (T7.setTop (mkF m 51 #[rv a1, rv ac, iv 0, iv 2, .val .null, rv t_3] []))
  refine go_st (fun t k => XS.aloadN X7.here hx rfl (hb hby d0_51) rfl rfl k) ?_
  show Go _ _ _ _ (T7.setTop (mkF m 52 #[rv a1, rv ac, iv 0, iv 2, .val .null, rv t_3] [(.ref a1)]))
  refine go_st (fun t k => XS.aload X7.here hx rfl (hb hby d0_52) rfl rfl k) ?_
  show Go _ _ _ _ (T7.setTop (mkF m 54 #[rv a1, rv ac, iv 0, iv 2, .val .null, rv t_3] [(.ref t_3), (.ref a1)]))
  have f9 : Fld Z h7 a1 "java/lang/String" "value" "[B" .null := ((H1.keep K3 nin0).other W7 (Or.inr (slot_ne (Or.inr (w34 hw)) (Or.inr (w32 hw)) (by decide) (t := (.array .byte)) (t' := .byte) (by decide) (by decide))))
  have f10 : Exa Z h7 a1 "java/lang/String" := (f6.wr W7)
  obtain ⟨T11, h11, X11, e11, W11, st11⟩ := putF X7 hx hZ hown (host := "") (Or.inl (w33 hw)) Via.refl e7 f9 f10 (Or.inr ⟨(w34 hw), rfl, hnm⟩) (w7 hw) (ty := (.array .byte)) (by decide) rfl rfl (g := (mkF m 54 #[rv a1, rv ac, iv 0, iv 2, .val .null, rv t_3] [(.ref t_3), (.ref a1)])) rfl rfl (hb hby d0_54)
  have N11 := Fr.snoc X11 N7 g_a1
  have f12 : Fld Z h11 a1 "java/lang/String" "value" "[B" (.ref t_3) := f9.same W11
  refine go_st (fun t k => st11 t k) ?_
  show Go _ _ _ _ (T11.setTop (mkF m 57 #[rv a1, rv ac, iv 0, iv 2, .val .null, rv t_3] []))
  have f13 : Exa Z h11 a1 "java/lang/String" := (f10.wr W11)
  have nq14 : a1 ≠ t_3 := Nat.ne_of_lt (Nat.lt_of_lt_of_le (Nat.lt_of_lt_of_le H0.lt (Nat.le_refl _)) lf3_0)
  have f15 : Arv Z h11 t_3 kb_3 .byte N_3 vs_3 (.int (0 : Int32)) := ((p3_1.other W7 (Ne.symm nq14)).other W11 (Ne.symm nq14))
  have ke16 : Keep h0 h3 [a1] := (Keep.trans (Keep.refl h0 [a1]) K3 all0)
  have ke17 : Keep h0 h7 [a1] := (Keep.wr ke16 W7 (Or.inl (List.mem_of_getElem? (i := 0) rfl)))
  have ke18 : Keep h0 h11 [a1] := (Keep.wr ke17 W11 (Or.inl (List.mem_of_getElem? (i := 0) rfl)))
  obtain ⟨fs, hr, hrun, hended, hW, hsame⟩ := X11.leave (v := none) (fun _ => rfl)
  refine ⟨_, _, ?_, hrun, hended, _, _, rfl, ?_, ⟨_, rfl⟩, hW, hsame.mono (by decide) (by decide)⟩
  · exact X11.returnOut hx Bd.returns (hb hby d0_57) hr
  · show Q_s4_2 _ _ _ _ _ _ _ _ _ _ T11.heap _
    rw [e11]
    exact ⟨t_3, kb_3, N_3, vs_3, rfl, N11, ke18, gf3_0, lf3_0, f13, f12, f15, hN_3⟩
def Q_s1_2 (Z : State) (a1 : Addr) (ac : Addr) (kc : ClassId) (c0 : Int32) (c1 : Int32) (G1 : Int32) (h0 : Heap) (n0 : Nat) (vR : Option Value) (h : Heap) (L : List Loc) : Prop := ∃ (t : Addr) (kb : ClassId) (N : Int32) (vs : List Value), vR = none ∧ Fr n0 L ∧ Keep h0 h [a1] ∧ n0 ≤ t ∧ h0.size ≤ t ∧ (Exa Z h a1 "java/lang/String") ∧ (Fld Z h a1 "java/lang/String" "value" "[B" (.ref t)) ∧ (Arv Z h t kb .byte N vs (.int (0 : Int32))) ∧ (¬ N = (0 : Int32))
theorem ef_s1_2 (m : MethodId) (x0 : Addr) (x1 : Addr) : entryFrame m #[(.ref x0), (.ref x1)] 2 = mkF m 0 #[.val (.ref x0), .val (.ref x1)] [] := by first | (simp [entryFrame, mkF, argsToLocals, Value.category]; done) | rfl
set_option maxRecDepth 65536 in
set_option maxHeartbeats 40000000 in
theorem rm_s1_2 (l : Launch) (Z : State) (a0 : Array Value) (hw : ∀ d ∈ tables_1, d.before a0 Z = true) (ws : List Jvm.Cond) (a1 : Addr) (ac : Addr) (kc : ClassId) (c0 : Int32) (c1 : Int32) (G1 : Int32) (h0 : Heap) (n0 : Nat) (Z0 : n0 ≤ h0.size) (H0 : Exa Z h0 a1 "java/lang/String") (H1 : Fld Z h0 a1 "java/lang/String" "value" "[B" .null) (H2 : Fld Z h0 a1 "java/lang/String" "coder" "B" (.int 0)) (H3 : Arv Z h0 ac kc .char (2 : Int32) [(.int c0), (.int c1)] (.int (0 : Int32))) (g_a1 : n0 ≤ a1) (ne_a1_ac : a1 ≠ ac) (AD : Sta Z Z.heap "java/lang/StringUTF16" "$assertionsDisabled" "Z" (.int (1 : Int32))) (HB : Sta Z Z.heap "java/lang/StringUTF16" "HI_BYTE_SHIFT" "I" (.int (0 : Int32))) (LB : Sta Z Z.heap "java/lang/StringUTF16" "LO_BYTE_SHIFT" "I" (.int (8 : Int32))) (CS : Sta Z Z.heap "java/lang/String" "COMPACT_STRINGS" "Z" (.int G1)) (CSn : ¬ (G1 = (0 : Int32))) (rg0 : 0 ≤ c0.toInt ∧ c0.toInt ≤ 65535) (rg1 : 0 ≤ c1.toInt ∧ c1.toInt ≤ 65535) (O0 : Old Z n0 h0) :
    MetFree l (⟨"java/lang/String", "<init>", "([C)V"⟩ : MethodName) (head1 (Jvm.Cond.code (⟨"java/lang/String", "<init>", "([C)V"⟩ : MethodName) jdk_42_method_3_code 2 none :: ws) ({ frames := 5, cells := 2, slots := 6, locals := 74 } : Room)) (fun a U => a = #[(.ref a1), (.ref ac)] ∧ Z.Warmed39 U.vm ∧ U.heap = h0) (fun _ _ _ _ _ => True) (fun _ U o U' => ∃ v L, o = .returned v ∧ Q_s1_2 Z a1 ac kc c0 c1 G1 h0 n0 v U'.heap L ∧ FrameEnd U o U' L ({ frames := 5, cells := 2, slots := 6, locals := 74 } : Room).cells ({ frames := 5, cells := 2, slots := 6, locals := 74 } : Room).slots) := by
  refine MetFree.of_bodySF (plainFor_of_name pn_java_lang_String) hisR ?_
  intro p e s m args below meth c s₁ Bd hml0 hP hK
  obtain ⟨rfl, hZ, hh⟩ := hP
  have hx := Bd.exec
  have hby := Bd.bytes
  have hml : c.maxLocals = 2 := hml0
  have hown : s.vm.findClass "java/lang/String" = some m.cls := findClass_of_methodNamed Bd.named
  have hnm := (name_of_methodNamed Bd.named Bd.method).1
  have X0 : Stand p l e ({ frames := 5, cells := 2, slots := 6, locals := 74 } : Room) s m #[(.ref a1), (.ref ac)] below meth c s₁ [] 0 0 := Stand.of_body Bd
  have e0 : s₁.heap = h0 := by rw [← hh, Bd.state]; rfl
  have N0 := Fr.nil n0
  refine go_st (fun t k => castTop (ef_s1_2 m a1 ac) k) ?_
  show Go _ _ _ _ (s₁.setTop (mkF m 0 #[rv a1, rv ac] []))
  refine go_st (fun t k => XS.aloadN X0.here hx rfl (hb hby d1_0) rfl rfl k) ?_
  show Go _ _ _ _ (s₁.setTop (mkF m 1 #[rv a1, rv ac] [(.ref a1)]))
  refine go_st (fun t k => XS.aloadN X0.here hx rfl (hb hby d1_1) rfl rfl k) ?_
  show Go _ _ _ _ (s₁.setTop (mkF m 2 #[rv a1, rv ac] [(.ref ac), (.ref a1)]))
  refine go_st (fun t k => XS.iconst X0.here hx rfl (hb hby d1_2) k) ?_
  show Go _ _ _ _ (s₁.setTop (mkF m 3 #[rv a1, rv ac] [(.int 0), (.ref ac), (.ref a1)]))
  refine go_st (fun t k => XS.aloadN X0.here hx rfl (hb hby d1_3) rfl rfl k) ?_
  show Go _ _ _ _ (s₁.setTop (mkF m 4 #[rv a1, rv ac] [(.ref ac), (.int 0), (.ref ac), (.ref a1)]))
  obtain ⟨zc1, zA1, zq1, zS1, zN1, zH1, zG1⟩ := id H3
  refine go_st (fun t k => X0.arraylength hx (by rw [e0]; exact zA1.1) (State.isArrayOf_alike hZ.alike zA1.2.1) (g := (mkF m 4 #[rv a1, rv ac] [(.ref ac), (.int 0), (.ref ac), (.ref a1)])) rfl rfl (hb hby d1_4) t k) ?_
  rw [len_of zS1 zN1]
  show Go _ _ _ _ (s₁.setTop (mkF m 5 #[rv a1, rv ac] [(.int 2), (.int 0), (.ref ac), (.ref a1)]))
  refine go_st (fun t k => XS.aconstNull X0.here hx rfl (hb hby d1_5) k) ?_
  show Go _ _ _ _ (s₁.setTop (mkF m 6 #[rv a1, rv ac] [.null, (.int 2), (.int 0), (.ref ac), (.ref a1)]))
  obtain ⟨_, _, ⟨T2, L2, kk2, nn2⟩, -, X2, ⟨Lc2, hQ2, lq2, yq2, zq2⟩, st2⟩ := X0.specialBack hx (y := (⟨"java/lang/String", "<init>", "([CIILjava/lang/Void;)V"⟩ : MethodName)) rfl hown (mvT hZ (w12 hw)) (mvT hZ (w13 hw)) (mvT hZ (w15 hw)) (by decide) (backOf (W := 0) (rm_s4_2 l Z a0 hw [] a1 ac kc c0 c1 G1 h0 n0 (Nat.le_trans Z0 (Nat.le_refl _)) H0 H1 H2 H3 g_a1 ne_a1_ac AD HB LB CS CSn rg0 rg1 O0) hZ (w15 hw) (w8 hw) (by decide) (by decide)) (g := (mkF m 6 #[rv a1, rv ac] [.null, (.int 2), (.int 0), (.ref ac), (.ref a1)])) rfl (by rw [hml]; rfl) (Steps.refl _) (a := a1) (argsL := [(.ref ac), (.int 0), (.int 2), .null]) (rest := []) (lenOf pd_0 rfl) rfl (by show 2 * 0 + _ ≤ _; exact Nat.le_of_eq rfl) (hb hby d1_6) (fun _ _ => ⟨rfl, e0, (by decide : 0 + 2 ≤ _), (by decide : 0 + 6 ≤ _)⟩)
  dsimp only [Pt.U, Pt.locs, Pt.cells, Pt.slots] at X2 lq2 yq2 zq2 st2 hQ2
  subst lq2 yq2 zq2
  obtain ⟨h2, e2⟩ : ∃ z, T2.heap = z := ⟨_, rfl⟩
  rw [e2] at hQ2
  obtain ⟨t_2, kb_2, N_2, vs_2, rfl, N2q, K2, gf2_0, lf2_0, p2_1, p2_2, p2_3, hN_2⟩ := hQ2
  have N2 := Fr.app N0 N2q
  refine go_tr st2 ?_
  show Go _ _ _ _ (T2.setTop (mkF m 9 #[rv a1, rv ac] []))
  have ke3 : Keep h0 h2 [a1] := (Keep.trans (Keep.refl h0 [a1]) K2 (allS (Or.inl (List.mem_of_getElem? (i := 0) rfl)) all0))
  obtain ⟨fs, hr, hrun, hended, hW, hsame⟩ := X2.leave (v := none) (fun _ => rfl)
  refine ⟨_, _, ?_, hrun, hended, _, _, rfl, ?_, ⟨_, rfl⟩, hW, hsame.mono (by decide) (by decide)⟩
  · exact X2.returnOut hx Bd.returns (hb hby d1_9) hr
  · show Q_s1_2 _ _ _ _ _ _ _ _ _ _ T2.heap _
    rw [e2]
    exact ⟨t_2, kb_2, N_2, vs_2, rfl, N2, ke3, gf2_0, lf2_0, p2_1, p2_2, p2_3, hN_2⟩
def Q_em1 (Z : State) (a1 : Addr) (ta : Addr) (kb : ClassId) (h0 : Heap) (n0 : Nat) (vR : Option Value) (h : Heap) (L : List Loc) : Prop := vR = some (.int 1) ∧ Fr n0 L ∧ h = h0
theorem ef_em1 (m : MethodId) (x0 : Addr) : entryFrame m #[(.ref x0)] 1 = mkF m 0 #[.val (.ref x0)] [] := by first | (simp [entryFrame, mkF, argsToLocals, Value.category]; done) | rfl
set_option maxRecDepth 65536 in
set_option maxHeartbeats 40000000 in
theorem rm_em1 (l : Launch) (Z : State) (a0 : Array Value) (hw : ∀ d ∈ tables_1, d.before a0 Z = true) (ws : List Jvm.Cond) (a1 : Addr) (ta : Addr) (kb : ClassId) (h0 : Heap) (n0 : Nat) (Z0 : n0 ≤ h0.size) (H0 : Fld Z h0 a1 "java/lang/String" "value" "[B" (.ref ta)) (H1 : Arv Z h0 ta kb .byte (0 : Int32) [] (.int 0)) :
    MetFree l (⟨"java/lang/String", "isEmpty", "()Z"⟩ : MethodName) (head1 (Jvm.Cond.code (⟨"java/lang/String", "isEmpty", "()Z"⟩ : MethodName) jdk_42_method_55_code 1 (some .boolean) :: ws) ({ frames := 0, cells := 0, slots := 0, locals := 0 } : Room)) (fun a U => a = #[(.ref a1)] ∧ Z.Warmed39 U.vm ∧ U.heap = h0) (fun _ _ _ _ _ => True) (fun _ U o U' => ∃ v L, o = .returned v ∧ Q_em1 Z a1 ta kb h0 n0 v U'.heap L ∧ FrameEnd U o U' L ({ frames := 0, cells := 0, slots := 0, locals := 0 } : Room).cells ({ frames := 0, cells := 0, slots := 0, locals := 0 } : Room).slots) := by
  refine MetFree.of_bodySF (plainFor_of_name pn_java_lang_String) hisR ?_
  intro p e s m args below meth c s₁ Bd hml0 hP hK
  obtain ⟨rfl, hZ, hh⟩ := hP
  have hx := Bd.exec
  have hby := Bd.bytes
  have hml : c.maxLocals = 1 := hml0
  have hown : s.vm.findClass "java/lang/String" = some m.cls := findClass_of_methodNamed Bd.named
  have hnm := (name_of_methodNamed Bd.named Bd.method).1
  have X0 : Stand p l e ({ frames := 0, cells := 0, slots := 0, locals := 0 } : Room) s m #[(.ref a1)] below meth c s₁ [] 0 0 := Stand.of_body Bd
  have e0 : s₁.heap = h0 := by rw [← hh, Bd.state]; rfl
  have N0 := Fr.nil n0
  refine go_st (fun t k => castTop (ef_em1 m a1) k) ?_
  show Go _ _ _ _ (s₁.setTop (mkF m 0 #[rv a1] []))
  refine go_st (fun t k => XS.aloadN X0.here hx rfl (hb hby d10_0) rfl rfl k) ?_
  show Go _ _ _ _ (s₁.setTop (mkF m 1 #[rv a1] [(.ref a1)]))
  obtain ⟨T1, X1, e1, st1⟩ := getF X0 hx hZ hown (host := "") (Or.inl (w33 hw)) Via.refl e0 H0 (g := (mkF m 1 #[rv a1] [(.ref a1)])) rfl rfl (hb hby d10_1)
  refine go_st (fun t k => st1 t k) ?_
  show Go _ _ _ _ (T1.setTop (mkF m 4 #[rv a1] [(.ref ta)]))
  obtain ⟨zc2, zA2, zq2, zS2, zN2, zH2, zG2⟩ := id H1
  refine go_st (fun t k => X1.arraylength hx (by rw [e1]; exact zA2.1) (State.isArrayOf_alike hZ.alike zA2.2.1) (g := (mkF m 4 #[rv a1] [(.ref ta)])) rfl rfl (hb hby d10_4) t k) ?_
  rw [len_of zS2 zN2]
  show Go _ _ _ _ (T1.setTop (mkF m 5 #[rv a1] [(.int 0)]))
  refine go_st (fun t k => XS.ifNo X1.here hx rfl (hb hby d10_5) rfl ((if0 _ _).trans (teq ((by decide) : (0 : Int32) = (0 : Int32))).2) k) ?_
  show Go _ _ _ _ (T1.setTop (mkF m 8 #[rv a1] []))
  refine go_st (fun t k => XS.iconst X1.here hx rfl (hb hby d10_8) k) ?_
  show Go _ _ _ _ (T1.setTop (mkF m 9 #[rv a1] [(.int 1)]))
  refine go_st (fun t k => XS.goto X1.here hx rfl (pc0 := 9) (pc' := 13) rfl (hb hby d10_9) (by decide) (by decide) k) ?_
  show Go _ _ _ _ (T1.setTop (mkF m 13 #[rv a1] [(.int 1)]))
  obtain ⟨fs, hr, hrun, hended, hW, hsame⟩ := X1.leave (v := some (.int 1)) (fun h => by rw [Bd.returns] at h; cases h)
  refine ⟨_, _, ?_, hrun, hended, _, _, rfl, ?_, ⟨_, rfl⟩, hW, hsame.mono (by decide) (by decide)⟩
  · exact retN X1 hx (t := .boolean) Bd.returns (by simp) (hb hby d10_13) hr
  · show Q_em1 _ _ _ _ _ _ _ T1.heap _
    rw [e1]
    exact ⟨rfl, N0, rfl⟩
def Q_em0 (Z : State) (a1 : Addr) (ta : Addr) (kb : ClassId) (N : Int32) (vs : List Value) (h0 : Heap) (n0 : Nat) (vR : Option Value) (h : Heap) (L : List Loc) : Prop := vR = some (.int 0) ∧ Fr n0 L ∧ h = h0
theorem ef_em0 (m : MethodId) (x0 : Addr) : entryFrame m #[(.ref x0)] 1 = mkF m 0 #[.val (.ref x0)] [] := by first | (simp [entryFrame, mkF, argsToLocals, Value.category]; done) | rfl
set_option maxRecDepth 65536 in
set_option maxHeartbeats 40000000 in
theorem rm_em0 (l : Launch) (Z : State) (a0 : Array Value) (hw : ∀ d ∈ tables_1, d.before a0 Z = true) (ws : List Jvm.Cond) (a1 : Addr) (ta : Addr) (kb : ClassId) (N : Int32) (vs : List Value) (h0 : Heap) (n0 : Nat) (Z0 : n0 ≤ h0.size) (H0 : Fld Z h0 a1 "java/lang/String" "value" "[B" (.ref ta)) (H1 : Arv Z h0 ta kb .byte N vs (.int (0 : Int32))) (hN : ¬ N = (0 : Int32)) :
    MetFree l (⟨"java/lang/String", "isEmpty", "()Z"⟩ : MethodName) (head1 (Jvm.Cond.code (⟨"java/lang/String", "isEmpty", "()Z"⟩ : MethodName) jdk_42_method_55_code 1 (some .boolean) :: ws) ({ frames := 0, cells := 0, slots := 0, locals := 0 } : Room)) (fun a U => a = #[(.ref a1)] ∧ Z.Warmed39 U.vm ∧ U.heap = h0) (fun _ _ _ _ _ => True) (fun _ U o U' => ∃ v L, o = .returned v ∧ Q_em0 Z a1 ta kb N vs h0 n0 v U'.heap L ∧ FrameEnd U o U' L ({ frames := 0, cells := 0, slots := 0, locals := 0 } : Room).cells ({ frames := 0, cells := 0, slots := 0, locals := 0 } : Room).slots) := by
  refine MetFree.of_bodySF (plainFor_of_name pn_java_lang_String) hisR ?_
  intro p e s m args below meth c s₁ Bd hml0 hP hK
  obtain ⟨rfl, hZ, hh⟩ := hP
  have hx := Bd.exec
  have hby := Bd.bytes
  have hml : c.maxLocals = 1 := hml0
  have hown : s.vm.findClass "java/lang/String" = some m.cls := findClass_of_methodNamed Bd.named
  have hnm := (name_of_methodNamed Bd.named Bd.method).1
  have X0 : Stand p l e ({ frames := 0, cells := 0, slots := 0, locals := 0 } : Room) s m #[(.ref a1)] below meth c s₁ [] 0 0 := Stand.of_body Bd
  have e0 : s₁.heap = h0 := by rw [← hh, Bd.state]; rfl
  have N0 := Fr.nil n0
  refine go_st (fun t k => castTop (ef_em0 m a1) k) ?_
  show Go _ _ _ _ (s₁.setTop (mkF m 0 #[rv a1] []))
  refine go_st (fun t k => XS.aloadN X0.here hx rfl (hb hby d10_0) rfl rfl k) ?_
  show Go _ _ _ _ (s₁.setTop (mkF m 1 #[rv a1] [(.ref a1)]))
  obtain ⟨T1, X1, e1, st1⟩ := getF X0 hx hZ hown (host := "") (Or.inl (w33 hw)) Via.refl e0 H0 (g := (mkF m 1 #[rv a1] [(.ref a1)])) rfl rfl (hb hby d10_1)
  refine go_st (fun t k => st1 t k) ?_
  show Go _ _ _ _ (T1.setTop (mkF m 4 #[rv a1] [(.ref ta)]))
  obtain ⟨zc2, zA2, zq2, zS2, zN2, zH2, zG2⟩ := id H1
  refine go_st (fun t k => X1.arraylength hx (by rw [e1]; exact zA2.1) (State.isArrayOf_alike hZ.alike zA2.2.1) (g := (mkF m 4 #[rv a1] [(.ref ta)])) rfl rfl (hb hby d10_4) t k) ?_
  rw [len_of zS2 zN2]
  show Go _ _ _ _ (T1.setTop (mkF m 5 #[rv a1] [(.int N)]))
  refine go_st (fun t k => XS.ifYes X1.here hx rfl (pc0 := 5) (pc' := 12) rfl (hb hby d10_5) rfl ((if0 _ _).trans (feq (hN : ¬ (N = (0 : Int32)))).2) (by decide) (by decide) k) ?_
  show Go _ _ _ _ (T1.setTop (mkF m 12 #[rv a1] []))
  refine go_st (fun t k => XS.iconst X1.here hx rfl (hb hby d10_12) k) ?_
  show Go _ _ _ _ (T1.setTop (mkF m 13 #[rv a1] [(.int 0)]))
  obtain ⟨fs, hr, hrun, hended, hW, hsame⟩ := X1.leave (v := some (.int 0)) (fun h => by rw [Bd.returns] at h; cases h)
  refine ⟨_, _, ?_, hrun, hended, _, _, rfl, ?_, ⟨_, rfl⟩, hW, hsame.mono (by decide) (by decide)⟩
  · exact retN X1 hx (t := .boolean) Bd.returns (by simp) (hb hby d10_13) hr
  · show Q_em0 _ _ _ _ _ _ _ _ _ T1.heap _
    rw [e1]
    exact ⟨rfl, N0, rfl⟩
def Q_rec (Z : State) (a1 : Addr) (h0 : Heap) (n0 : Nat) (vR : Option Value) (h : Heap) (L : List Loc) : Prop := vR = none ∧ Fr n0 L ∧ h = h0
theorem ef_rec (m : MethodId) (x0 : Addr) : entryFrame m #[(.ref x0)] 1 = mkF m 0 #[.val (.ref x0)] [] := by first | (simp [entryFrame, mkF, argsToLocals, Value.category]; done) | rfl
set_option maxRecDepth 65536 in
set_option maxHeartbeats 40000000 in
theorem rm_rec (l : Launch) (Z : State) (a0 : Array Value) (hw : ∀ d ∈ tables_1, d.before a0 Z = true) (ws : List Jvm.Cond) (a1 : Addr) (h0 : Heap) (n0 : Nat) (Z0 : n0 ≤ h0.size)  :
    MetFree l (⟨"java/lang/Record", "<init>", "()V"⟩ : MethodName) (head1 (Jvm.Cond.code (⟨"java/lang/Record", "<init>", "()V"⟩ : MethodName) jdk_30_method_1_code 1 none :: ws) ({ frames := 1, cells := 0, slots := 0, locals := 12 } : Room)) (fun a U => a = #[(.ref a1)] ∧ Z.Warmed39 U.vm ∧ U.heap = h0) (fun _ _ _ _ _ => True) (fun _ U o U' => ∃ v L, o = .returned v ∧ Q_rec Z a1 h0 n0 v U'.heap L ∧ FrameEnd U o U' L ({ frames := 1, cells := 0, slots := 0, locals := 12 } : Room).cells ({ frames := 1, cells := 0, slots := 0, locals := 12 } : Room).slots) := by
  refine MetFree.of_bodySF (plainFor_of_name pn_java_lang_Record) hisR ?_
  intro p e s m args below meth c s₁ Bd hml0 hP hK
  obtain ⟨rfl, hZ, hh⟩ := hP
  have hx := Bd.exec
  have hby := Bd.bytes
  have hml : c.maxLocals = 1 := hml0
  have hown : s.vm.findClass "java/lang/Record" = some m.cls := findClass_of_methodNamed Bd.named
  have hnm := (name_of_methodNamed Bd.named Bd.method).1
  have X0 : Stand p l e ({ frames := 1, cells := 0, slots := 0, locals := 12 } : Room) s m #[(.ref a1)] below meth c s₁ [] 0 0 := Stand.of_body Bd
  have e0 : s₁.heap = h0 := by rw [← hh, Bd.state]; rfl
  have N0 := Fr.nil n0
  refine go_st (fun t k => castTop (ef_rec m a1) k) ?_
  show Go _ _ _ _ (s₁.setTop (mkF m 0 #[rv a1] []))
  refine go_st (fun t k => XS.aloadN X0.here hx rfl (hb hby d11_0) rfl rfl k) ?_
  show Go _ _ _ _ (s₁.setTop (mkF m 1 #[rv a1] [(.ref a1)]))
  obtain ⟨T1, X1, e1, st1⟩ := initO X0 hx hZ hown (w46 hw) (w17 hw) (w18 hw) e0 (g := (mkF m 1 #[rv a1] [(.ref a1)])) rfl (by rw [hml]; rfl) rfl (hb hby d11_1) (by decide) (W := 0) (by show 2 * 0 + _ ≤ _; exact Nat.le_of_eq rfl) (by decide)
  refine go_st (fun t k => st1 t k) ?_
  show Go _ _ _ _ (T1.setTop (mkF m 4 #[rv a1] []))
  obtain ⟨fs, hr, hrun, hended, hW, hsame⟩ := X1.leave (v := none) (fun _ => rfl)
  refine ⟨_, _, ?_, hrun, hended, _, _, rfl, ?_, ⟨_, rfl⟩, hW, hsame.mono (by decide) (by decide)⟩
  · exact X1.returnOut hx Bd.returns (hb hby d11_4) hr
  · show Q_rec _ _ _ _ _ T1.heap _
    rw [e1]
    exact ⟨rfl, N0, rfl⟩
def Q_cred (Z : State) (a1 : Addr) (v1 : Value) (v2 : Value) (h0 : Heap) (n0 : Nat) (vR : Option Value) (h : Heap) (L : List Loc) : Prop := vR = none ∧ Fr n0 L ∧ Keep h0 h [a1] ∧ (Exa Z h a1 "com/example/credence/credence/Credentials") ∧ (Fld Z h a1 "com/example/credence/credence/Credentials" "username" "Ljava/lang/String;" v1) ∧ (Fld Z h a1 "com/example/credence/credence/Credentials" "password" "Ljava/lang/String;" v2)
theorem ef_cred (m : MethodId) (x0 : Addr) (x1 : Value) (hx1 : x1.isRef = true) (x2 : Value) (hx2 : x2.isRef = true) : entryFrame m #[(.ref x0), x1, x2] 3 = mkF m 0 #[.val (.ref x0), .val x1, .val x2] [] := by rcases ref_cases hx1 with rfl | ⟨y1, rfl⟩ <;> rcases ref_cases hx2 with rfl | ⟨y2, rfl⟩ <;> simp [entryFrame, mkF, argsToLocals, Value.category]
set_option maxRecDepth 65536 in
set_option maxHeartbeats 40000000 in
theorem rm_cred (l : Launch) (Z : State) (a0 : Array Value) (hw : ∀ d ∈ tables_1, d.before a0 Z = true) (ws : List Jvm.Cond) (a1 : Addr) (v1 : Value) (v2 : Value) (h0 : Heap) (n0 : Nat) (Z0 : n0 ≤ h0.size) (H0 : Exa Z h0 a1 "com/example/credence/credence/Credentials") (H1 : Fld Z h0 a1 "com/example/credence/credence/Credentials" "username" "Ljava/lang/String;" .null) (H2 : Fld Z h0 a1 "com/example/credence/credence/Credentials" "password" "Ljava/lang/String;" .null) (g_a1 : n0 ≤ a1) (hv1 : v1.isRef = true) (hv2 : v2.isRef = true) :
    MetFree l (⟨"com/example/credence/credence/Credentials", "<init>", "(Ljava/lang/String;Ljava/lang/String;)V"⟩ : MethodName) (head1 (Jvm.Cond.code (⟨"com/example/credence/credence/Credentials", "<init>", "(Ljava/lang/String;Ljava/lang/String;)V"⟩ : MethodName) prog_3_method_1_code 3 none :: ws) ({ frames := 2, cells := 0, slots := 0, locals := 24 } : Room)) (fun a U => a = #[(.ref a1), v1, v2] ∧ Z.Warmed39 U.vm ∧ U.heap = h0) (fun _ _ _ _ _ => True) (fun _ U o U' => ∃ v L, o = .returned v ∧ Q_cred Z a1 v1 v2 h0 n0 v U'.heap L ∧ FrameEnd U o U' L ({ frames := 2, cells := 0, slots := 0, locals := 24 } : Room).cells ({ frames := 2, cells := 0, slots := 0, locals := 24 } : Room).slots) := by
  refine MetFree.of_bodySF (plainFor_of_name pn_com_example_credence_credence_Credentials) hisR ?_
  intro p e s m args below meth c s₁ Bd hml0 hP hK
  obtain ⟨rfl, hZ, hh⟩ := hP
  have hx := Bd.exec
  have hby := Bd.bytes
  have hml : c.maxLocals = 3 := hml0
  have hown : s.vm.findClass "com/example/credence/credence/Credentials" = some m.cls := findClass_of_methodNamed Bd.named
  have hnm := (name_of_methodNamed Bd.named Bd.method).1
  have X0 : Stand p l e ({ frames := 2, cells := 0, slots := 0, locals := 24 } : Room) s m #[(.ref a1), v1, v2] below meth c s₁ [] 0 0 := Stand.of_body Bd
  have e0 : s₁.heap = h0 := by rw [← hh, Bd.state]; rfl
  have N0 := Fr.nil n0
  refine go_st (fun t k => castTop (ef_cred m a1 v1 hv1 v2 hv2) k) ?_
  show Go _ _ _ _ (s₁.setTop (mkF m 0 #[rv a1, .val v1, .val v2] []))
  refine go_st (fun t k => XS.aloadN X0.here hx rfl (hb hby d12_0) rfl rfl k) ?_
  show Go _ _ _ _ (s₁.setTop (mkF m 1 #[rv a1, .val v1, .val v2] [(.ref a1)]))
  obtain ⟨_, _, ⟨T1, L1, kk1, nn1⟩, -, X1, ⟨Lc1, hQ1, lq1, yq1, zq1⟩, st1⟩ := X0.specialBack hx (y := (⟨"java/lang/Record", "<init>", "()V"⟩ : MethodName)) rfl hown (mvT hZ (w41 hw)) (mvT hZ (w42 hw)) (mvT hZ (w45 hw)) (by decide) (backOf (W := 0) (rm_rec l Z a0 hw [] a1 h0 n0 (Nat.le_trans Z0 (Nat.le_refl _)) ) hZ (w45 hw) (w44 hw) (by decide) (by decide)) (g := (mkF m 1 #[rv a1, .val v1, .val v2] [(.ref a1)])) rfl (by rw [hml]; rfl) (Steps.refl _) (a := a1) (argsL := []) (rest := []) (lenOf pd_8 rfl) rfl (by show 2 * 0 + _ ≤ _; exact Nat.le_of_eq rfl) (hb hby d12_1) (fun _ _ => ⟨rfl, e0, (by decide : 0 + 0 ≤ _), (by decide : 0 + 0 ≤ _)⟩)
  dsimp only [Pt.U, Pt.locs, Pt.cells, Pt.slots] at X1 lq1 yq1 zq1 st1 hQ1
  subst lq1 yq1 zq1
  obtain ⟨h1, e1⟩ : ∃ z, T1.heap = z := ⟨_, rfl⟩
  rw [e1] at hQ1
  obtain ⟨rfl, N1q, he1⟩ := hQ1
  have N1 := Fr.app N0 N1q
  rw [he1] at e1
  refine go_tr st1 ?_
  show Go _ _ _ _ (T1.setTop (mkF m 4 #[rv a1, .val v1, .val v2] []))
  refine go_st (fun t k => XS.aloadN X1.here hx rfl (hb hby d12_4) rfl rfl k) ?_
  show Go _ _ _ _ (T1.setTop (mkF m 5 #[rv a1, .val v1, .val v2] [(.ref a1)]))
  refine go_st (fun t k => XS.aloadN X1.here hx rfl (hb hby d12_5) rfl hv1 k) ?_
  show Go _ _ _ _ (T1.setTop (mkF m 6 #[rv a1, .val v1, .val v2] [v1, (.ref a1)]))
  obtain ⟨T2, h2, X2, e2, W2, st2⟩ := putF X1 hx hZ hown (host := "") (Or.inl (w47 hw)) Via.refl e1 H1 H0 (Or.inr ⟨(w48 hw), rfl, hnm⟩) (w36 hw) (ty := (.object "java/lang/String")) (by decide) (ref_narrow _ hv1) (ref_fits _ hv1) (g := (mkF m 6 #[rv a1, .val v1, .val v2] [v1, (.ref a1)])) rfl rfl (hb hby d12_6)
  have N2 := Fr.snoc X2 N1 g_a1
  have f3 : Fld Z h2 a1 "com/example/credence/credence/Credentials" "username" "Ljava/lang/String;" v1 := H1.same W2
  refine go_st (fun t k => st2 t k) ?_
  show Go _ _ _ _ (T2.setTop (mkF m 9 #[rv a1, .val v1, .val v2] []))
  refine go_st (fun t k => XS.aloadN X2.here hx rfl (hb hby d12_9) rfl rfl k) ?_
  show Go _ _ _ _ (T2.setTop (mkF m 10 #[rv a1, .val v1, .val v2] [(.ref a1)]))
  refine go_st (fun t k => XS.aloadN X2.here hx rfl (hb hby d12_10) rfl hv2 k) ?_
  show Go _ _ _ _ (T2.setTop (mkF m 11 #[rv a1, .val v1, .val v2] [v2, (.ref a1)]))
  have f4 : Fld Z h2 a1 "com/example/credence/credence/Credentials" "password" "Ljava/lang/String;" .null := (H2.other W2 (Or.inr (slot_ne (Or.inr (w50 hw)) (Or.inr (w48 hw)) (by decide) (t := (.object "java/lang/String")) (t' := (.object "java/lang/String")) (by decide) (by decide))))
  have f5 : Exa Z h2 a1 "com/example/credence/credence/Credentials" := (H0.wr W2)
  obtain ⟨T6, h6, X6, e6, W6, st6⟩ := putF X2 hx hZ hown (host := "") (Or.inl (w49 hw)) Via.refl e2 f4 f5 (Or.inr ⟨(w50 hw), rfl, hnm⟩) (w36 hw) (ty := (.object "java/lang/String")) (by decide) (ref_narrow _ hv2) (ref_fits _ hv2) (g := (mkF m 11 #[rv a1, .val v1, .val v2] [v2, (.ref a1)])) rfl rfl (hb hby d12_11)
  have N6 := Fr.snoc X6 N2 g_a1
  have f7 : Fld Z h6 a1 "com/example/credence/credence/Credentials" "password" "Ljava/lang/String;" v2 := f4.same W6
  refine go_st (fun t k => st6 t k) ?_
  show Go _ _ _ _ (T6.setTop (mkF m 14 #[rv a1, .val v1, .val v2] []))
  have f8 : Exa Z h6 a1 "com/example/credence/credence/Credentials" := (f5.wr W6)
  have f9 : Fld Z h6 a1 "com/example/credence/credence/Credentials" "username" "Ljava/lang/String;" v1 := (f3.other W6 (Or.inr (slot_ne (Or.inr (w48 hw)) (Or.inr (w50 hw)) (by decide) (t := (.object "java/lang/String")) (t' := (.object "java/lang/String")) (by decide) (by decide))))
  have ke10 : Keep h0 h2 [a1] := (Keep.wr (Keep.refl h0 [a1]) W2 (Or.inl (List.mem_of_getElem? (i := 0) rfl)))
  have ke11 : Keep h0 h6 [a1] := (Keep.wr ke10 W6 (Or.inl (List.mem_of_getElem? (i := 0) rfl)))
  obtain ⟨fs, hr, hrun, hended, hW, hsame⟩ := X6.leave (v := none) (fun _ => rfl)
  refine ⟨_, _, ?_, hrun, hended, _, _, rfl, ?_, ⟨_, rfl⟩, hW, hsame.mono (by decide) (by decide)⟩
  · exact X6.returnOut hx Bd.returns (hb hby d12_14) hr
  · show Q_cred _ _ _ _ _ _ _ T6.heap _
    rw [e6]
    exact ⟨rfl, N6, ke11, f8, f9, f7⟩
def Q_blank (Z : State) (a1 : Addr) (v1 : Value) (v2 : Value) (n1 : Bool) (n2 : Bool) (h0 : Heap) (n0 : Nat) (vR : Option Value) (h : Heap) (L : List Loc) : Prop := ∃ (r : Int32), vR = some (.int r) ∧ Fr n0 L ∧ h = h0 ∧ (r = (if (n1 || n2) = false then 1 else 0))
theorem ef_blank (m : MethodId) (x0 : Addr) : entryFrame m #[(.ref x0)] 1 = mkF m 0 #[.val (.ref x0)] [] := by first | (simp [entryFrame, mkF, argsToLocals, Value.category]; done) | rfl
set_option maxRecDepth 65536 in
set_option maxHeartbeats 40000000 in
theorem rm_blank (l : Launch) (Z : State) (a0 : Array Value) (hw : ∀ d ∈ tables_1, d.before a0 Z = true) (ws : List Jvm.Cond) (a1 : Addr) (v1 : Value) (v2 : Value) (n1 : Bool) (n2 : Bool) (h0 : Heap) (n0 : Nat) (Z0 : n0 ≤ h0.size) (H0 : Fld Z h0 a1 "com/example/credence/credence/Credentials" "username" "Ljava/lang/String;" v1) (H1 : Fld Z h0 a1 "com/example/credence/credence/Credentials" "password" "Ljava/lang/String;" v2) (hv1 : v1.isRef = true) (hv2 : v2.isRef = true) (H4 : OStr Z h0 v1 n1) (H5 : OStr Z h0 v2 n2) :
    MetFree l (⟨"com/example/credence/credence/Credentials", "blank", "()Z"⟩ : MethodName) (head1 (Jvm.Cond.code (⟨"com/example/credence/credence/Credentials", "blank", "()Z"⟩ : MethodName) prog_3_method_3_code 1 (some .boolean) :: ws) ({ frames := 1, cells := 0, slots := 0, locals := 12 } : Room)) (fun a U => a = #[(.ref a1)] ∧ Z.Warmed39 U.vm ∧ U.heap = h0) (fun _ _ _ _ _ => True) (fun _ U o U' => ∃ v L, o = .returned v ∧ Q_blank Z a1 v1 v2 n1 n2 h0 n0 v U'.heap L ∧ FrameEnd U o U' L ({ frames := 1, cells := 0, slots := 0, locals := 12 } : Room).cells ({ frames := 1, cells := 0, slots := 0, locals := 12 } : Room).slots) := by
  refine MetFree.of_bodySF (plainFor_of_name pn_com_example_credence_credence_Credentials) hisR ?_
  intro p e s m args below meth c s₁ Bd hml0 hP hK
  obtain ⟨rfl, hZ, hh⟩ := hP
  have hx := Bd.exec
  have hby := Bd.bytes
  have hml : c.maxLocals = 1 := hml0
  have hown : s.vm.findClass "com/example/credence/credence/Credentials" = some m.cls := findClass_of_methodNamed Bd.named
  have hnm := (name_of_methodNamed Bd.named Bd.method).1
  have X0 : Stand p l e ({ frames := 1, cells := 0, slots := 0, locals := 12 } : Room) s m #[(.ref a1)] below meth c s₁ [] 0 0 := Stand.of_body Bd
  have e0 : s₁.heap = h0 := by rw [← hh, Bd.state]; rfl
  have N0 := Fr.nil n0
  refine go_st (fun t k => castTop (ef_blank m a1) k) ?_
  show Go _ _ _ _ (s₁.setTop (mkF m 0 #[rv a1] []))
  refine go_st (fun t k => XS.aloadN X0.here hx rfl (hb hby d13_0) rfl rfl k) ?_
  show Go _ _ _ _ (s₁.setTop (mkF m 1 #[rv a1] [(.ref a1)]))
  obtain ⟨T1, X1, e1, st1⟩ := getF X0 hx hZ hown (host := "") (Or.inl (w47 hw)) Via.refl e0 H0 (g := (mkF m 1 #[rv a1] [(.ref a1)])) rfl rfl (hb hby d13_1)
  refine go_st (fun t k => st1 t k) ?_
  show Go _ _ _ _ (T1.setTop (mkF m 4 #[rv a1] [v1]))
  rcases H4 with ⟨rfl, rfl⟩ | ⟨oa2, ot2, ok2, rfl, ⟨oE2, oV2, oA2⟩, rfl⟩ | ⟨oa2, ot2, ok2, oN2, os2, rfl, ⟨oE2, oV2, oA2, oN_2⟩, rfl⟩
  · skip
    show Go _ _ _ _ (T1.setTop (mkF m 4 #[rv a1] [.null]))
    refine go_st (fun t k => XS.ifnullYes X1.here hx rfl (pc0 := 4) (pc' := 17) rfl (hb hby d13_4) rfl (by decide) (by decide) k) ?_
    show Go _ _ _ _ (T1.setTop (mkF m 17 #[rv a1] []))
    refine go_st (fun t k => XS.aloadN X1.here hx rfl (hb hby d13_17) rfl rfl k) ?_
    show Go _ _ _ _ (T1.setTop (mkF m 18 #[rv a1] [(.ref a1)]))
    obtain ⟨T3, X3, e3, st3⟩ := getF X1 hx hZ hown (host := "") (Or.inl (w49 hw)) Via.refl e1 H1 (g := (mkF m 18 #[rv a1] [(.ref a1)])) rfl rfl (hb hby d13_18)
    refine go_st (fun t k => st3 t k) ?_
    show Go _ _ _ _ (T3.setTop (mkF m 21 #[rv a1] [v2]))
    rcases H5 with ⟨rfl, rfl⟩ | ⟨oa4, ot4, ok4, rfl, ⟨oE4, oV4, oA4⟩, rfl⟩ | ⟨oa4, ot4, ok4, oN4, os4, rfl, ⟨oE4, oV4, oA4, oN_4⟩, rfl⟩
    · skip
      show Go _ _ _ _ (T3.setTop (mkF m 21 #[rv a1] [.null]))
      refine go_st (fun t k => XS.ifnullYes X3.here hx rfl (pc0 := 21) (pc' := 34) rfl (hb hby d13_21) rfl (by decide) (by decide) k) ?_
      show Go _ _ _ _ (T3.setTop (mkF m 34 #[rv a1] []))
      refine go_st (fun t k => XS.iconst X3.here hx rfl (hb hby d13_34) k) ?_
      show Go _ _ _ _ (T3.setTop (mkF m 35 #[rv a1] [(.int 1)]))
      refine go_st (fun t k => XS.goto X3.here hx rfl (pc0 := 35) (pc' := 39) rfl (hb hby d13_35) (by decide) (by decide) k) ?_
      show Go _ _ _ _ (T3.setTop (mkF m 39 #[rv a1] [(.int 1)]))
      obtain ⟨fs, hr, hrun, hended, hW, hsame⟩ := X3.leave (v := some (.int 1)) (fun h => by rw [Bd.returns] at h; cases h)
      refine ⟨_, _, ?_, hrun, hended, _, _, rfl, ?_, ⟨_, rfl⟩, hW, hsame.mono (by decide) (by decide)⟩
      · exact retN X3 hx (t := .boolean) Bd.returns (by simp) (hb hby d13_39) hr
      · show Q_blank _ _ _ _ _ _ _ _ _ T3.heap _
        rw [e3]
        exact ⟨(1 : Int32), rfl, N0, rfl, (by simp)⟩
    · skip
      show Go _ _ _ _ (T3.setTop (mkF m 21 #[rv a1] [(.ref oa4)]))
      refine go_st (fun t k => XS.ifnullNo X3.here hx rfl (hb hby d13_21) rfl k) ?_
      show Go _ _ _ _ (T3.setTop (mkF m 24 #[rv a1] []))
      refine go_st (fun t k => XS.aloadN X3.here hx rfl (hb hby d13_24) rfl rfl k) ?_
      show Go _ _ _ _ (T3.setTop (mkF m 25 #[rv a1] [(.ref a1)]))
      obtain ⟨T5, X5, e5, st5⟩ := getF X3 hx hZ hown (host := "") (Or.inl (w49 hw)) Via.refl e3 H1 (g := (mkF m 25 #[rv a1] [(.ref a1)])) rfl rfl (hb hby d13_25)
      refine go_st (fun t k => st5 t k) ?_
      show Go _ _ _ _ (T5.setTop (mkF m 28 #[rv a1] [(.ref oa4)]))
      obtain ⟨cq6, kq6, q6a, q6b, q6c⟩ := isOf hZ e5 oE4
      obtain ⟨_, _, ⟨T6, L6, kk6, nn6⟩, -, X6, ⟨Lc6, hQ6, lq6, yq6, zq6⟩, st6⟩ := X5.virtualBack hx (y := (⟨"java/lang/String", "isEmpty", "()Z"⟩ : MethodName)) (z := (⟨"java/lang/String", "isEmpty", "()Z"⟩ : MethodName)) hown (mvT hZ (w56 hw)) (mvT hZ (w57 hw)) (notFace_of_selects (args := #[]) (mvT hZ (w59 hw))) (mvT hZ (w59 hw)) (mvT hZ (w58 hw)) (by decide) (backOf (W := 0) (rm_em1 l Z a0 hw [] oa4 ot4 ok4 h0 n0 (Nat.le_trans Z0 (Nat.le_refl _)) oV4 oA4) hZ (w60 hw) (w8 hw) (by decide) (by decide)) q6a q6c (g := (mkF m 28 #[rv a1] [(.ref oa4)])) rfl (by rw [hml]; rfl) (Steps.refl _) (argsL := []) (rest := []) (lenOf pd_9 rfl) rfl (by show 2 * 0 + _ ≤ _; exact Nat.le_of_eq rfl) (hb hby d13_28) (fun _ _ => ⟨rfl, e5, (by decide : 0 + 0 ≤ _), (by decide : 0 + 0 ≤ _)⟩)
      dsimp only [Pt.U, Pt.locs, Pt.cells, Pt.slots] at X6 lq6 yq6 zq6 st6 hQ6
      subst lq6 yq6 zq6
      obtain ⟨h6, e6⟩ : ∃ z, T6.heap = z := ⟨_, rfl⟩
      rw [e6] at hQ6
      obtain ⟨rfl, N6q, he6⟩ := hQ6
      have N6 := Fr.app N0 N6q
      rw [he6] at e6
      refine go_tr st6 ?_
      show Go _ _ _ _ (T6.setTop (mkF m 31 #[rv a1] [(.int 1)]))
      refine go_st (fun t k => XS.ifNo X6.here hx rfl (hb hby d13_31) rfl ((if0 _ _).trans (feq ((by decide) : ¬ ((1 : Int32) = (0 : Int32)))).1) k) ?_
      show Go _ _ _ _ (T6.setTop (mkF m 34 #[rv a1] []))
      refine go_st (fun t k => XS.iconst X6.here hx rfl (hb hby d13_34) k) ?_
      show Go _ _ _ _ (T6.setTop (mkF m 35 #[rv a1] [(.int 1)]))
      refine go_st (fun t k => XS.goto X6.here hx rfl (pc0 := 35) (pc' := 39) rfl (hb hby d13_35) (by decide) (by decide) k) ?_
      show Go _ _ _ _ (T6.setTop (mkF m 39 #[rv a1] [(.int 1)]))
      obtain ⟨fs, hr, hrun, hended, hW, hsame⟩ := X6.leave (v := some (.int 1)) (fun h => by rw [Bd.returns] at h; cases h)
      refine ⟨_, _, ?_, hrun, hended, _, _, rfl, ?_, ⟨_, rfl⟩, hW, hsame.mono (by decide) (by decide)⟩
      · exact retN X6 hx (t := .boolean) Bd.returns (by simp) (hb hby d13_39) hr
      · show Q_blank _ _ _ _ _ _ _ _ _ T6.heap _
        rw [e6]
        exact ⟨(1 : Int32), rfl, N6, rfl, (by simp)⟩
    · skip
      show Go _ _ _ _ (T3.setTop (mkF m 21 #[rv a1] [(.ref oa4)]))
      refine go_st (fun t k => XS.ifnullNo X3.here hx rfl (hb hby d13_21) rfl k) ?_
      show Go _ _ _ _ (T3.setTop (mkF m 24 #[rv a1] []))
      refine go_st (fun t k => XS.aloadN X3.here hx rfl (hb hby d13_24) rfl rfl k) ?_
      show Go _ _ _ _ (T3.setTop (mkF m 25 #[rv a1] [(.ref a1)]))
      obtain ⟨T7, X7, e7, st7⟩ := getF X3 hx hZ hown (host := "") (Or.inl (w49 hw)) Via.refl e3 H1 (g := (mkF m 25 #[rv a1] [(.ref a1)])) rfl rfl (hb hby d13_25)
      refine go_st (fun t k => st7 t k) ?_
      show Go _ _ _ _ (T7.setTop (mkF m 28 #[rv a1] [(.ref oa4)]))
      obtain ⟨cq8, kq8, q8a, q8b, q8c⟩ := isOf hZ e7 oE4
      obtain ⟨_, _, ⟨T8, L8, kk8, nn8⟩, -, X8, ⟨Lc8, hQ8, lq8, yq8, zq8⟩, st8⟩ := X7.virtualBack hx (y := (⟨"java/lang/String", "isEmpty", "()Z"⟩ : MethodName)) (z := (⟨"java/lang/String", "isEmpty", "()Z"⟩ : MethodName)) hown (mvT hZ (w56 hw)) (mvT hZ (w57 hw)) (notFace_of_selects (args := #[]) (mvT hZ (w59 hw))) (mvT hZ (w59 hw)) (mvT hZ (w58 hw)) (by decide) (backOf (W := 0) (rm_em0 l Z a0 hw [] oa4 ot4 ok4 oN4 os4 h0 n0 (Nat.le_trans Z0 (Nat.le_refl _)) oV4 oA4 oN_4) hZ (w60 hw) (w8 hw) (by decide) (by decide)) q8a q8c (g := (mkF m 28 #[rv a1] [(.ref oa4)])) rfl (by rw [hml]; rfl) (Steps.refl _) (argsL := []) (rest := []) (lenOf pd_9 rfl) rfl (by show 2 * 0 + _ ≤ _; exact Nat.le_of_eq rfl) (hb hby d13_28) (fun _ _ => ⟨rfl, e7, (by decide : 0 + 0 ≤ _), (by decide : 0 + 0 ≤ _)⟩)
      dsimp only [Pt.U, Pt.locs, Pt.cells, Pt.slots] at X8 lq8 yq8 zq8 st8 hQ8
      subst lq8 yq8 zq8
      obtain ⟨h8, e8⟩ : ∃ z, T8.heap = z := ⟨_, rfl⟩
      rw [e8] at hQ8
      obtain ⟨rfl, N8q, he8⟩ := hQ8
      have N8 := Fr.app N0 N8q
      rw [he8] at e8
      refine go_tr st8 ?_
      show Go _ _ _ _ (T8.setTop (mkF m 31 #[rv a1] [(.int 0)]))
      refine go_st (fun t k => XS.ifYes X8.here hx rfl (pc0 := 31) (pc' := 38) rfl (hb hby d13_31) rfl ((if0 _ _).trans (teq ((by decide) : (0 : Int32) = (0 : Int32))).1) (by decide) (by decide) k) ?_
      show Go _ _ _ _ (T8.setTop (mkF m 38 #[rv a1] []))
      refine go_st (fun t k => XS.iconst X8.here hx rfl (hb hby d13_38) k) ?_
      show Go _ _ _ _ (T8.setTop (mkF m 39 #[rv a1] [(.int 0)]))
      obtain ⟨fs, hr, hrun, hended, hW, hsame⟩ := X8.leave (v := some (.int 0)) (fun h => by rw [Bd.returns] at h; cases h)
      refine ⟨_, _, ?_, hrun, hended, _, _, rfl, ?_, ⟨_, rfl⟩, hW, hsame.mono (by decide) (by decide)⟩
      · exact retN X8 hx (t := .boolean) Bd.returns (by simp) (hb hby d13_39) hr
      · show Q_blank _ _ _ _ _ _ _ _ _ T8.heap _
        rw [e8]
        exact ⟨(0 : Int32), rfl, N8, rfl, (by simp)⟩
  · skip
    show Go _ _ _ _ (T1.setTop (mkF m 4 #[rv a1] [(.ref oa2)]))
    refine go_st (fun t k => XS.ifnullNo X1.here hx rfl (hb hby d13_4) rfl k) ?_
    show Go _ _ _ _ (T1.setTop (mkF m 7 #[rv a1] []))
    refine go_st (fun t k => XS.aloadN X1.here hx rfl (hb hby d13_7) rfl rfl k) ?_
    show Go _ _ _ _ (T1.setTop (mkF m 8 #[rv a1] [(.ref a1)]))
    obtain ⟨T9, X9, e9, st9⟩ := getF X1 hx hZ hown (host := "") (Or.inl (w47 hw)) Via.refl e1 H0 (g := (mkF m 8 #[rv a1] [(.ref a1)])) rfl rfl (hb hby d13_8)
    refine go_st (fun t k => st9 t k) ?_
    show Go _ _ _ _ (T9.setTop (mkF m 11 #[rv a1] [(.ref oa2)]))
    obtain ⟨cq10, kq10, q10a, q10b, q10c⟩ := isOf hZ e9 oE2
    obtain ⟨_, _, ⟨T10, L10, kk10, nn10⟩, -, X10, ⟨Lc10, hQ10, lq10, yq10, zq10⟩, st10⟩ := X9.virtualBack hx (y := (⟨"java/lang/String", "isEmpty", "()Z"⟩ : MethodName)) (z := (⟨"java/lang/String", "isEmpty", "()Z"⟩ : MethodName)) hown (mvT hZ (w56 hw)) (mvT hZ (w57 hw)) (notFace_of_selects (args := #[]) (mvT hZ (w59 hw))) (mvT hZ (w59 hw)) (mvT hZ (w58 hw)) (by decide) (backOf (W := 0) (rm_em1 l Z a0 hw [] oa2 ot2 ok2 h0 n0 (Nat.le_trans Z0 (Nat.le_refl _)) oV2 oA2) hZ (w60 hw) (w8 hw) (by decide) (by decide)) q10a q10c (g := (mkF m 11 #[rv a1] [(.ref oa2)])) rfl (by rw [hml]; rfl) (Steps.refl _) (argsL := []) (rest := []) (lenOf pd_9 rfl) rfl (by show 2 * 0 + _ ≤ _; exact Nat.le_of_eq rfl) (hb hby d13_11) (fun _ _ => ⟨rfl, e9, (by decide : 0 + 0 ≤ _), (by decide : 0 + 0 ≤ _)⟩)
    dsimp only [Pt.U, Pt.locs, Pt.cells, Pt.slots] at X10 lq10 yq10 zq10 st10 hQ10
    subst lq10 yq10 zq10
    obtain ⟨h10, e10⟩ : ∃ z, T10.heap = z := ⟨_, rfl⟩
    rw [e10] at hQ10
    obtain ⟨rfl, N10q, he10⟩ := hQ10
    have N10 := Fr.app N0 N10q
    rw [he10] at e10
    refine go_tr st10 ?_
    show Go _ _ _ _ (T10.setTop (mkF m 14 #[rv a1] [(.int 1)]))
    refine go_st (fun t k => XS.ifNo X10.here hx rfl (hb hby d13_14) rfl ((if0 _ _).trans (feq ((by decide) : ¬ ((1 : Int32) = (0 : Int32)))).1) k) ?_
    show Go _ _ _ _ (T10.setTop (mkF m 17 #[rv a1] []))
    refine go_st (fun t k => XS.aloadN X10.here hx rfl (hb hby d13_17) rfl rfl k) ?_
    show Go _ _ _ _ (T10.setTop (mkF m 18 #[rv a1] [(.ref a1)]))
    obtain ⟨T11, X11, e11, st11⟩ := getF X10 hx hZ hown (host := "") (Or.inl (w49 hw)) Via.refl e10 H1 (g := (mkF m 18 #[rv a1] [(.ref a1)])) rfl rfl (hb hby d13_18)
    refine go_st (fun t k => st11 t k) ?_
    show Go _ _ _ _ (T11.setTop (mkF m 21 #[rv a1] [v2]))
    rcases H5 with ⟨rfl, rfl⟩ | ⟨oa12, ot12, ok12, rfl, ⟨oE12, oV12, oA12⟩, rfl⟩ | ⟨oa12, ot12, ok12, oN12, os12, rfl, ⟨oE12, oV12, oA12, oN_12⟩, rfl⟩
    · skip
      show Go _ _ _ _ (T11.setTop (mkF m 21 #[rv a1] [.null]))
      refine go_st (fun t k => XS.ifnullYes X11.here hx rfl (pc0 := 21) (pc' := 34) rfl (hb hby d13_21) rfl (by decide) (by decide) k) ?_
      show Go _ _ _ _ (T11.setTop (mkF m 34 #[rv a1] []))
      refine go_st (fun t k => XS.iconst X11.here hx rfl (hb hby d13_34) k) ?_
      show Go _ _ _ _ (T11.setTop (mkF m 35 #[rv a1] [(.int 1)]))
      refine go_st (fun t k => XS.goto X11.here hx rfl (pc0 := 35) (pc' := 39) rfl (hb hby d13_35) (by decide) (by decide) k) ?_
      show Go _ _ _ _ (T11.setTop (mkF m 39 #[rv a1] [(.int 1)]))
      obtain ⟨fs, hr, hrun, hended, hW, hsame⟩ := X11.leave (v := some (.int 1)) (fun h => by rw [Bd.returns] at h; cases h)
      refine ⟨_, _, ?_, hrun, hended, _, _, rfl, ?_, ⟨_, rfl⟩, hW, hsame.mono (by decide) (by decide)⟩
      · exact retN X11 hx (t := .boolean) Bd.returns (by simp) (hb hby d13_39) hr
      · show Q_blank _ _ _ _ _ _ _ _ _ T11.heap _
        rw [e11]
        exact ⟨(1 : Int32), rfl, N10, rfl, (by simp)⟩
    · skip
      show Go _ _ _ _ (T11.setTop (mkF m 21 #[rv a1] [(.ref oa12)]))
      refine go_st (fun t k => XS.ifnullNo X11.here hx rfl (hb hby d13_21) rfl k) ?_
      show Go _ _ _ _ (T11.setTop (mkF m 24 #[rv a1] []))
      refine go_st (fun t k => XS.aloadN X11.here hx rfl (hb hby d13_24) rfl rfl k) ?_
      show Go _ _ _ _ (T11.setTop (mkF m 25 #[rv a1] [(.ref a1)]))
      obtain ⟨T13, X13, e13, st13⟩ := getF X11 hx hZ hown (host := "") (Or.inl (w49 hw)) Via.refl e11 H1 (g := (mkF m 25 #[rv a1] [(.ref a1)])) rfl rfl (hb hby d13_25)
      refine go_st (fun t k => st13 t k) ?_
      show Go _ _ _ _ (T13.setTop (mkF m 28 #[rv a1] [(.ref oa12)]))
      obtain ⟨cq14, kq14, q14a, q14b, q14c⟩ := isOf hZ e13 oE12
      obtain ⟨_, _, ⟨T14, L14, kk14, nn14⟩, -, X14, ⟨Lc14, hQ14, lq14, yq14, zq14⟩, st14⟩ := X13.virtualBack hx (y := (⟨"java/lang/String", "isEmpty", "()Z"⟩ : MethodName)) (z := (⟨"java/lang/String", "isEmpty", "()Z"⟩ : MethodName)) hown (mvT hZ (w56 hw)) (mvT hZ (w57 hw)) (notFace_of_selects (args := #[]) (mvT hZ (w59 hw))) (mvT hZ (w59 hw)) (mvT hZ (w58 hw)) (by decide) (backOf (W := 0) (rm_em1 l Z a0 hw [] oa12 ot12 ok12 h0 n0 (Nat.le_trans Z0 (Nat.le_refl _)) oV12 oA12) hZ (w60 hw) (w8 hw) (by decide) (by decide)) q14a q14c (g := (mkF m 28 #[rv a1] [(.ref oa12)])) rfl (by rw [hml]; rfl) (Steps.refl _) (argsL := []) (rest := []) (lenOf pd_9 rfl) rfl (by show 2 * 0 + _ ≤ _; exact Nat.le_of_eq rfl) (hb hby d13_28) (fun _ _ => ⟨rfl, e13, (by decide : 0 + 0 ≤ _), (by decide : 0 + 0 ≤ _)⟩)
      dsimp only [Pt.U, Pt.locs, Pt.cells, Pt.slots] at X14 lq14 yq14 zq14 st14 hQ14
      subst lq14 yq14 zq14
      obtain ⟨h14, e14⟩ : ∃ z, T14.heap = z := ⟨_, rfl⟩
      rw [e14] at hQ14
      obtain ⟨rfl, N14q, he14⟩ := hQ14
      have N14 := Fr.app N10 N14q
      rw [he14] at e14
      refine go_tr st14 ?_
      show Go _ _ _ _ (T14.setTop (mkF m 31 #[rv a1] [(.int 1)]))
      refine go_st (fun t k => XS.ifNo X14.here hx rfl (hb hby d13_31) rfl ((if0 _ _).trans (feq ((by decide) : ¬ ((1 : Int32) = (0 : Int32)))).1) k) ?_
      show Go _ _ _ _ (T14.setTop (mkF m 34 #[rv a1] []))
      refine go_st (fun t k => XS.iconst X14.here hx rfl (hb hby d13_34) k) ?_
      show Go _ _ _ _ (T14.setTop (mkF m 35 #[rv a1] [(.int 1)]))
      refine go_st (fun t k => XS.goto X14.here hx rfl (pc0 := 35) (pc' := 39) rfl (hb hby d13_35) (by decide) (by decide) k) ?_
      show Go _ _ _ _ (T14.setTop (mkF m 39 #[rv a1] [(.int 1)]))
      obtain ⟨fs, hr, hrun, hended, hW, hsame⟩ := X14.leave (v := some (.int 1)) (fun h => by rw [Bd.returns] at h; cases h)
      refine ⟨_, _, ?_, hrun, hended, _, _, rfl, ?_, ⟨_, rfl⟩, hW, hsame.mono (by decide) (by decide)⟩
      · exact retN X14 hx (t := .boolean) Bd.returns (by simp) (hb hby d13_39) hr
      · show Q_blank _ _ _ _ _ _ _ _ _ T14.heap _
        rw [e14]
        exact ⟨(1 : Int32), rfl, N14, rfl, (by simp)⟩
    · skip
      show Go _ _ _ _ (T11.setTop (mkF m 21 #[rv a1] [(.ref oa12)]))
      refine go_st (fun t k => XS.ifnullNo X11.here hx rfl (hb hby d13_21) rfl k) ?_
      show Go _ _ _ _ (T11.setTop (mkF m 24 #[rv a1] []))
      refine go_st (fun t k => XS.aloadN X11.here hx rfl (hb hby d13_24) rfl rfl k) ?_
      show Go _ _ _ _ (T11.setTop (mkF m 25 #[rv a1] [(.ref a1)]))
      obtain ⟨T15, X15, e15, st15⟩ := getF X11 hx hZ hown (host := "") (Or.inl (w49 hw)) Via.refl e11 H1 (g := (mkF m 25 #[rv a1] [(.ref a1)])) rfl rfl (hb hby d13_25)
      refine go_st (fun t k => st15 t k) ?_
      show Go _ _ _ _ (T15.setTop (mkF m 28 #[rv a1] [(.ref oa12)]))
      obtain ⟨cq16, kq16, q16a, q16b, q16c⟩ := isOf hZ e15 oE12
      obtain ⟨_, _, ⟨T16, L16, kk16, nn16⟩, -, X16, ⟨Lc16, hQ16, lq16, yq16, zq16⟩, st16⟩ := X15.virtualBack hx (y := (⟨"java/lang/String", "isEmpty", "()Z"⟩ : MethodName)) (z := (⟨"java/lang/String", "isEmpty", "()Z"⟩ : MethodName)) hown (mvT hZ (w56 hw)) (mvT hZ (w57 hw)) (notFace_of_selects (args := #[]) (mvT hZ (w59 hw))) (mvT hZ (w59 hw)) (mvT hZ (w58 hw)) (by decide) (backOf (W := 0) (rm_em0 l Z a0 hw [] oa12 ot12 ok12 oN12 os12 h0 n0 (Nat.le_trans Z0 (Nat.le_refl _)) oV12 oA12 oN_12) hZ (w60 hw) (w8 hw) (by decide) (by decide)) q16a q16c (g := (mkF m 28 #[rv a1] [(.ref oa12)])) rfl (by rw [hml]; rfl) (Steps.refl _) (argsL := []) (rest := []) (lenOf pd_9 rfl) rfl (by show 2 * 0 + _ ≤ _; exact Nat.le_of_eq rfl) (hb hby d13_28) (fun _ _ => ⟨rfl, e15, (by decide : 0 + 0 ≤ _), (by decide : 0 + 0 ≤ _)⟩)
      dsimp only [Pt.U, Pt.locs, Pt.cells, Pt.slots] at X16 lq16 yq16 zq16 st16 hQ16
      subst lq16 yq16 zq16
      obtain ⟨h16, e16⟩ : ∃ z, T16.heap = z := ⟨_, rfl⟩
      rw [e16] at hQ16
      obtain ⟨rfl, N16q, he16⟩ := hQ16
      have N16 := Fr.app N10 N16q
      rw [he16] at e16
      refine go_tr st16 ?_
      show Go _ _ _ _ (T16.setTop (mkF m 31 #[rv a1] [(.int 0)]))
      refine go_st (fun t k => XS.ifYes X16.here hx rfl (pc0 := 31) (pc' := 38) rfl (hb hby d13_31) rfl ((if0 _ _).trans (teq ((by decide) : (0 : Int32) = (0 : Int32))).1) (by decide) (by decide) k) ?_
      show Go _ _ _ _ (T16.setTop (mkF m 38 #[rv a1] []))
      refine go_st (fun t k => XS.iconst X16.here hx rfl (hb hby d13_38) k) ?_
      show Go _ _ _ _ (T16.setTop (mkF m 39 #[rv a1] [(.int 0)]))
      obtain ⟨fs, hr, hrun, hended, hW, hsame⟩ := X16.leave (v := some (.int 0)) (fun h => by rw [Bd.returns] at h; cases h)
      refine ⟨_, _, ?_, hrun, hended, _, _, rfl, ?_, ⟨_, rfl⟩, hW, hsame.mono (by decide) (by decide)⟩
      · exact retN X16 hx (t := .boolean) Bd.returns (by simp) (hb hby d13_39) hr
      · show Q_blank _ _ _ _ _ _ _ _ _ T16.heap _
        rw [e16]
        exact ⟨(0 : Int32), rfl, N16, rfl, (by simp)⟩
  · skip
    show Go _ _ _ _ (T1.setTop (mkF m 4 #[rv a1] [(.ref oa2)]))
    refine go_st (fun t k => XS.ifnullNo X1.here hx rfl (hb hby d13_4) rfl k) ?_
    show Go _ _ _ _ (T1.setTop (mkF m 7 #[rv a1] []))
    refine go_st (fun t k => XS.aloadN X1.here hx rfl (hb hby d13_7) rfl rfl k) ?_
    show Go _ _ _ _ (T1.setTop (mkF m 8 #[rv a1] [(.ref a1)]))
    obtain ⟨T17, X17, e17, st17⟩ := getF X1 hx hZ hown (host := "") (Or.inl (w47 hw)) Via.refl e1 H0 (g := (mkF m 8 #[rv a1] [(.ref a1)])) rfl rfl (hb hby d13_8)
    refine go_st (fun t k => st17 t k) ?_
    show Go _ _ _ _ (T17.setTop (mkF m 11 #[rv a1] [(.ref oa2)]))
    obtain ⟨cq18, kq18, q18a, q18b, q18c⟩ := isOf hZ e17 oE2
    obtain ⟨_, _, ⟨T18, L18, kk18, nn18⟩, -, X18, ⟨Lc18, hQ18, lq18, yq18, zq18⟩, st18⟩ := X17.virtualBack hx (y := (⟨"java/lang/String", "isEmpty", "()Z"⟩ : MethodName)) (z := (⟨"java/lang/String", "isEmpty", "()Z"⟩ : MethodName)) hown (mvT hZ (w56 hw)) (mvT hZ (w57 hw)) (notFace_of_selects (args := #[]) (mvT hZ (w59 hw))) (mvT hZ (w59 hw)) (mvT hZ (w58 hw)) (by decide) (backOf (W := 0) (rm_em0 l Z a0 hw [] oa2 ot2 ok2 oN2 os2 h0 n0 (Nat.le_trans Z0 (Nat.le_refl _)) oV2 oA2 oN_2) hZ (w60 hw) (w8 hw) (by decide) (by decide)) q18a q18c (g := (mkF m 11 #[rv a1] [(.ref oa2)])) rfl (by rw [hml]; rfl) (Steps.refl _) (argsL := []) (rest := []) (lenOf pd_9 rfl) rfl (by show 2 * 0 + _ ≤ _; exact Nat.le_of_eq rfl) (hb hby d13_11) (fun _ _ => ⟨rfl, e17, (by decide : 0 + 0 ≤ _), (by decide : 0 + 0 ≤ _)⟩)
    dsimp only [Pt.U, Pt.locs, Pt.cells, Pt.slots] at X18 lq18 yq18 zq18 st18 hQ18
    subst lq18 yq18 zq18
    obtain ⟨h18, e18⟩ : ∃ z, T18.heap = z := ⟨_, rfl⟩
    rw [e18] at hQ18
    obtain ⟨rfl, N18q, he18⟩ := hQ18
    have N18 := Fr.app N0 N18q
    rw [he18] at e18
    refine go_tr st18 ?_
    show Go _ _ _ _ (T18.setTop (mkF m 14 #[rv a1] [(.int 0)]))
    refine go_st (fun t k => XS.ifYes X18.here hx rfl (pc0 := 14) (pc' := 38) rfl (hb hby d13_14) rfl ((if0 _ _).trans (teq ((by decide) : (0 : Int32) = (0 : Int32))).1) (by decide) (by decide) k) ?_
    show Go _ _ _ _ (T18.setTop (mkF m 38 #[rv a1] []))
    refine go_st (fun t k => XS.iconst X18.here hx rfl (hb hby d13_38) k) ?_
    show Go _ _ _ _ (T18.setTop (mkF m 39 #[rv a1] [(.int 0)]))
    obtain ⟨fs, hr, hrun, hended, hW, hsame⟩ := X18.leave (v := some (.int 0)) (fun h => by rw [Bd.returns] at h; cases h)
    refine ⟨_, _, ?_, hrun, hended, _, _, rfl, ?_, ⟨_, rfl⟩, hW, hsame.mono (by decide) (by decide)⟩
    · exact retN X18 hx (t := .boolean) Bd.returns (by simp) (hb hby d13_39) hr
    · show Q_blank _ _ _ _ _ _ _ _ _ T18.heap _
      rw [e18]
      exact ⟨(0 : Int32), rfl, N18, rfl, (by simp)⟩
def Q_make (Z : State) (pk : Int32) (pc : Int32) (G1 : Int32) (h0 : Heap) (n0 : Nat) (vR : Option Value) (h : Heap) (L : List Loc) : Prop := ∃ (v : Value) (ne : Bool), vR = some v ∧ Fr n0 L ∧ Keep h0 h [] ∧ (v.isRef = true) ∧ (ne = decide (¬ pk < (2 : Int32))) ∧ (OStr Z h v ne)
theorem ef_make (m : MethodId) (x0 : Int32) (x1 : Int32) : entryFrame m #[(.int x0), (.int x1)] 3 = mkF m 0 #[.val (.int x0), .val (.int x1), .unset] [] := by first | (simp [entryFrame, mkF, argsToLocals, Value.category]; done) | rfl
set_option maxRecDepth 65536 in
set_option maxHeartbeats 40000000 in
theorem rm_make (l : Launch) (Z : State) (a0 : Array Value) (hw : ∀ d ∈ tables_1, d.before a0 Z = true) (ws : List Jvm.Cond) (pk : Int32) (pc : Int32) (G1 : Int32) (h0 : Heap) (n0 : Nat) (Z0 : n0 ≤ h0.size) (CS : Sta Z Z.heap "java/lang/String" "COMPACT_STRINGS" "Z" (.int G1)) (CSn : ¬ (G1 = (0 : Int32))) (AD : Sta Z Z.heap "java/lang/StringUTF16" "$assertionsDisabled" "Z" (.int (1 : Int32))) (HB : Sta Z Z.heap "java/lang/StringUTF16" "HI_BYTE_SHIFT" "I" (.int (0 : Int32))) (LB : Sta Z Z.heap "java/lang/StringUTF16" "LO_BYTE_SHIFT" "I" (.int (8 : Int32))) (hk3 : ¬ pk = 0 → ¬ pk = 1 → ¬ pk = 2 → pk = (3 : Int32)) (O0 : Old Z n0 h0) :
    MetFree l (⟨"com/example/credence/credence/CredentialsBlankPinLaw", "make", "(II)Ljava/lang/String;"⟩ : MethodName) (head1 (Jvm.Cond.code (⟨"com/example/credence/credence/CredentialsBlankPinLaw", "make", "(II)Ljava/lang/String;"⟩ : MethodName) method_2_code 3 (some (.object "java/lang/String")) :: ws) ({ frames := 6, cells := 6, slots := 12, locals := 88 } : Room)) (fun a U => a = #[(.int pk), (.int pc)] ∧ Z.Warmed39 U.vm ∧ U.heap = h0 ∧ CHv Z consts_1 U.vm h0) (fun _ _ _ _ _ => True) (fun _ U o U' => ∃ v L, o = .returned v ∧ Q_make Z pk pc G1 h0 n0 v U'.heap L ∧ CHr Z consts_1 U.vm U.heap U'.vm U'.heap ∧ ReturnedEndW U o U' L ({ frames := 6, cells := 6, slots := 12, locals := 88 } : Room).cells ({ frames := 6, cells := 6, slots := 12, locals := 88 } : Room).slots) := by
  refine MetFree.of_bodySF (plainFor_of_name pn_com_example_credence_credence_CredentialsBlankPinLaw) hisR ?_
  intro p e s m args below meth c s₁ Bd hml0 hP hK
  obtain ⟨rfl, hZs, hh, HC0⟩ := hP
  have hx := Bd.exec
  have hby := Bd.bytes
  have hml : c.maxLocals = 3 := hml0
  have hZ : Z.Warmed39 (s.setVm s.vm).vm := hZs
  have hown : (s.setVm s.vm).vm.findClass "com/example/credence/credence/CredentialsBlankPinLaw" = some m.cls := findClass_of_methodNamed Bd.named
  have hnm := (name_of_methodNamed Bd.named Bd.method).1
  have X0 : Stand p l e ({ frames := 6, cells := 6, slots := 12, locals := 88 } : Room) (s.setVm s.vm) m #[(.int pk), (.int pc)] below meth c s₁ [] 0 0 := Stand.of_body Bd
  have e0 : s₁.heap = h0 := by rw [← hh, Bd.state]; rfl
  have N0 := Fr.nil n0
  have hS0 : s.Since s.vm s.heap.size := (State.WarmedH.refl s).since _
  have hk0 : s.heap.size ≤ h0.size := Nat.le_of_eq (congrArg Array.size hh)
  have C0 : CHr Z consts_1 s.vm h0 s.vm h0 := CHr.refl HC0
  refine go_st (fun t k => castTop (ef_make m pk pc) k) ?_
  show Go _ _ _ _ (s₁.setTop (mkF m 0 #[iv pk, iv pc, .unset] []))
  refine go_st (fun t k => XS.iloadN X0.here hx rfl (hb hby d14_0) rfl k) ?_
  show Go _ _ _ _ (s₁.setTop (mkF m 1 #[iv pk, iv pc, .unset] [(.int pk)]))
  by_cases hc1 : pk = (0 : Int32)
  · skip
    refine go_st (fun t k => XS.ifNo X0.here hx rfl (hb hby d14_1) rfl ((if0 _ _).trans (teq (hc1 : pk = (0 : Int32))).2) k) ?_
    show Go _ _ _ _ (s₁.setTop (mkF m 4 #[iv pk, iv pc, .unset] []))
    refine go_st (fun t k => XS.aconstNull X0.here hx rfl (hb hby d14_4) k) ?_
    show Go _ _ _ _ (s₁.setTop (mkF m 5 #[iv pk, iv pc, .unset] [.null]))
    obtain ⟨fs, hr, hrun, hended, hR⟩ := X0.leaveW hS0 (by rw [e0]; exact (Nat.le_trans hk0 (Nat.le_refl _))) (v := some .null) (fun h => by rw [Bd.returns] at h; cases h)
    refine ⟨_, _, ?_, hrun, hended, _, _, rfl, ?_, ?_, hR.1, hR.2.1, hR.2.2.1, hR.2.2.2.mono (by decide) (by decide)⟩
    · exact retOut X0 hx Bd.returns rfl (Or.inr (Or.inr (Or.inr (Or.inr ⟨rfl, rfl, rfl⟩)))) (hb hby d14_5) hr
    · show Q_make _ _ _ _ _ _ _ s₁.heap _
      rw [e0]
      exact ⟨.null, false, rfl, N0, (Keep.refl h0 []), rfl, (by rw [hc1]; decide), (Or.inl ⟨rfl, rfl⟩)⟩
    · show CHr Z consts_1 s.vm s.heap s₁.vm s₁.heap
      rw [hh, e0]
      exact CHr.trans C0 (CHv.at X0 hZ (hEL hw) C0.1)
  · skip
    refine go_st (fun t k => XS.ifYes X0.here hx rfl (pc0 := 1) (pc' := 6) rfl (hb hby d14_1) rfl ((if0 _ _).trans (feq (hc1 : ¬ (pk = (0 : Int32)))).2) (by decide) (by decide) k) ?_
    show Go _ _ _ _ (s₁.setTop (mkF m 6 #[iv pk, iv pc, .unset] []))
    refine go_st (fun t k => XS.iloadN X0.here hx rfl (hb hby d14_6) rfl k) ?_
    show Go _ _ _ _ (s₁.setTop (mkF m 7 #[iv pk, iv pc, .unset] [(.int pk)]))
    refine go_st (fun t k => XS.iconst X0.here hx rfl (hb hby d14_7) k) ?_
    show Go _ _ _ _ (s₁.setTop (mkF m 8 #[iv pk, iv pc, .unset] [(.int 1), (.int pk)]))
    by_cases hc2 : pk = (1 : Int32)
    · skip
      refine go_st (fun t k => XS.icmpNo X0.here hx rfl (hb hby d14_8) rfl (teq (hc2 : pk = (1 : Int32))).2 k) ?_
      show Go _ _ _ _ (s₁.setTop (mkF m 11 #[iv pk, iv pc, .unset] []))
      refine go_st (fun t k => XS.iconst X0.here hx rfl (hb hby d14_11) k) ?_
      show Go _ _ _ _ (s₁.setTop (mkF m 12 #[iv pk, iv pc, .unset] [(.int 0)]))
      obtain ⟨T3, h3, kc3, X3, e3, E3, A3, st3⟩ := newP X0 hx hZ (aty := .char) (w4 hw) e0 (g := (mkF m 12 #[iv pk, iv pc, .unset] [(.int 0)])) rfl (hb hby d14_12) rfl (by decide) (cap := 0) (by decide) (by decide) (by decide) (by decide)
      obtain ⟨b3, gq3⟩ : ∃ z, z = h0.size := ⟨_, rfl⟩
      rw [← gq3] at A3 st3
      have C4 : CHr Z consts_1 s.vm h0 s.vm h3 := CHr.trans C0 (CHr.ext E3 C0.1)
      have f5 : Arv Z h3 b3 kc3 .char (0 : Int32) [] (.int 0) := (Arv.new A3 (by decide)).pad (pad_rep [] (.int 0) 0)
      refine go_st (fun t k => st3 t k) ?_
      show Go _ _ _ _ (T3.setTop (mkF m 14 #[iv pk, iv pc, .unset] [(.ref b3)]))
      refine go_st (fun t k => XS.astoreN X3.here hx rfl (hb hby d14_14) rfl rfl (l' := #[iv pk, iv pc, rv b3]) rfl k) ?_
      show Go _ _ _ _ (T3.setTop (mkF m 15 #[iv pk, iv pc, rv b3] []))
      obtain ⟨T6, h6, X6, e6, E6, A6, D6, -, st6⟩ := newO X3 hx hZ hown (w6 hw) (w7 hw) (w8 hw) e3 (g := (mkF m 15 #[iv pk, iv pc, rv b3] [])) rfl (hb hby d14_15) (by decide) (by decide)
      obtain ⟨b6, gq6⟩ : ∃ z, z = h3.size := ⟨_, rfl⟩
      rw [← gq6] at A6 D6 st6
      have sn6 : Safe Z consts_1 s.vm h3 b6 := Safe.new (Nat.le_of_eq gq6.symm)
      have C7 : CHr Z consts_1 s.vm h0 s.vm h6 := CHr.trans C4 (CHr.ext E6 C4.1)
      have sf8 : Safe Z consts_1 s.vm h6 b6 := Safe.ext E6 C4.1 sn6
      have f9 : Fld Z h6 b6 "java/lang/String" "coder" "B" (.int 0) := D6 (Or.inr (w32 hw)) (ty := .byte) (by decide)
      have f10 : Fld Z h6 b6 "java/lang/String" "value" "[B" .null := D6 (Or.inr (w34 hw)) (ty := (.array .byte)) (by decide)
      refine go_st (fun t k => st6 t k) ?_
      show Go _ _ _ _ (T6.setTop (mkF m 18 #[iv pk, iv pc, rv b3] [(.ref b6)]))
      refine go_st (fun t k => XS.dup X6.here hx rfl (hb hby d14_18) rfl rfl k) ?_
      show Go _ _ _ _ (T6.setTop (mkF m 19 #[iv pk, iv pc, rv b3] [(.ref b6), (.ref b6)]))
      refine go_st (fun t k => XS.aloadN X6.here hx rfl (hb hby d14_19) rfl rfl k) ?_
      show Go _ _ _ _ (T6.setTop (mkF m 20 #[iv pk, iv pc, rv b3] [(.ref b3), (.ref b6), (.ref b6)]))
      have f11 : Arv Z h6 b3 kc3 .char (0 : Int32) [] (.int 0) := (f5.ext E6)
      have g_b6 : n0 ≤ b6 := Nat.le_trans (Nat.le_trans Z0 E3.1) (Nat.le_of_eq gq6.symm)
      have nq12 : b3 ≠ b6 := Nat.ne_of_lt (Nat.lt_of_lt_of_le (Nat.lt_of_lt_of_le f5.lt (Nat.le_refl _)) (Nat.le_of_eq gq6.symm))
      have sz13 : h0.size ≤ h6.size := (Nat.le_trans E3.1 E6.1)
      obtain ⟨_, _, ⟨T14, L14, kk14, nn14⟩, -, X14, hs214, hg14, ⟨Lc14, hQ14, lq14, yq14, zq14, hC14⟩, st14⟩ := X6.specialBackS hx (y := (⟨"java/lang/String", "<init>", "([C)V"⟩ : MethodName)) rfl hown (mvT hZ (w9 hw)) (mvT hZ (w10 hw)) (mvT hZ (w11 hw)) (by decide) (backOfSH (vm0 := s.vm) (W := 1) (rm_strE1 l Z a0 hw [] b6 b3 kc3 h6 n0 (Nat.le_trans Z0 sz13) A6 f10 f9 f11 g_b6 (Ne.symm nq12)) hZ (w11 hw) (w8 hw) (by decide) (by decide) (hEL hw) C7.1) (g := (mkF m 20 #[iv pk, iv pc, rv b3] [(.ref b3), (.ref b6), (.ref b6)])) rfl (by rw [hml]; rfl) (Steps.refl _) (a := b6) (argsL := [(.ref b3)]) (rest := [(.ref b6)]) (lenOf pd_10 rfl) rfl (by show 2 * 0 + _ ≤ _; exact Nat.le_of_eq rfl) (hb hby d14_20) (fun _ _ => ⟨rfl, e6, (by decide : 2 + 4 ≤ _), (by decide : 4 + 8 ≤ _)⟩)
      dsimp only [Pt.U, Pt.locs, Pt.cells, Pt.slots] at X14 hs214 hg14 lq14 yq14 zq14 st14 hQ14 hC14
      subst lq14 yq14 zq14
      rw [e6] at hg14
      obtain ⟨X14, hS14, hZ14, hown14⟩ := rebS (vm0 := s.vm) hS0 (Nat.le_trans hk0 sz13) X14 hs214 hg14 hZ hown
      obtain ⟨h14, e14⟩ : ∃ z, T14.heap = z := ⟨_, rfl⟩
      rw [e14] at hQ14 hg14 hC14 hS14
      obtain ⟨t_14, kb_14, rfl, N14q, K14, p14_0, p14_1, p14_2, p14_3⟩ := hQ14
      have N14 := Fr.app N0 N14q
      have C15 : CHr Z consts_1 s.vm h0 T14.vm h14 := CHr.trans C7 hC14
      have sf16 : Safe Z consts_1 T14.vm h14 b6 := (CHr.safe hC14 A6.lt sf8)
      refine go_tr st14 ?_
      show Go _ _ _ _ (T14.setTop (mkF m 23 #[iv pk, iv pc, rv b3] [(.ref b6)]))
      have ke17 : Keep h0 h3 [] := (Keep.ext (Keep.refl h0 []) E3)
      have ke18 : Keep h0 h6 [] := (Keep.ext ke17 E6)
      have ke19 : Keep h0 h14 [] := (Keep.trans ke18 K14 (allS (Or.inr (Nat.le_trans E3.1 (Nat.le_of_eq gq6.symm))) all0))
      obtain ⟨fs, hr, hrun, hended, hR⟩ := X14.leaveW hS14 (by rw [e14]; exact (Nat.le_trans (Nat.le_refl _) (Nat.le_refl _))) (v := some (.ref b6)) (fun h => by rw [Bd.returns] at h; cases h)
      refine ⟨_, _, ?_, hrun, hended, _, _, rfl, ?_, ?_, hR.1, hR.2.1, hR.2.2.1, hR.2.2.2.mono (by decide) (by decide)⟩
      · exact retOut X14 hx Bd.returns rfl (Or.inr (Or.inr (Or.inr (Or.inr ⟨rfl, rfl, rfl⟩)))) (hb hby d14_23) hr
      · show Q_make _ _ _ _ _ _ _ T14.heap _
        rw [e14]
        exact ⟨(.ref b6), false, rfl, N14, ke19, rfl, (by rw [hc2]; decide), (Or.inr (Or.inl ⟨_, _, _, rfl, ⟨p14_0, p14_1, p14_3⟩, rfl⟩))⟩
      · show CHr Z consts_1 s.vm s.heap T14.vm T14.heap
        rw [hh, e14]
        exact CHr.trans C15 (CHv.at X14 hZ14 (hEL hw) C15.1)
    · skip
      refine go_st (fun t k => XS.icmpYes X0.here hx rfl (pc0 := 8) (pc' := 24) rfl (hb hby d14_8) rfl (feq (hc2 : ¬ (pk = (1 : Int32)))).2 (by decide) (by decide) k) ?_
      show Go _ _ _ _ (s₁.setTop (mkF m 24 #[iv pk, iv pc, .unset] []))
      refine go_st (fun t k => XS.iloadN X0.here hx rfl (hb hby d14_24) rfl k) ?_
      show Go _ _ _ _ (s₁.setTop (mkF m 25 #[iv pk, iv pc, .unset] [(.int pk)]))
      refine go_st (fun t k => XS.iconst X0.here hx rfl (hb hby d14_25) k) ?_
      show Go _ _ _ _ (s₁.setTop (mkF m 26 #[iv pk, iv pc, .unset] [(.int 2), (.int pk)]))
      by_cases hc20 : pk = (2 : Int32)
      · skip
        refine go_st (fun t k => XS.icmpNo X0.here hx rfl (hb hby d14_26) rfl (teq (hc20 : pk = (2 : Int32))).2 k) ?_
        show Go _ _ _ _ (s₁.setTop (mkF m 29 #[iv pk, iv pc, .unset] []))
        refine go_st (fun t k => XS.iconst X0.here hx rfl (hb hby d14_29) k) ?_
        show Go _ _ _ _ (s₁.setTop (mkF m 30 #[iv pk, iv pc, .unset] [(.int 1)]))
        obtain ⟨T21, h21, kc21, X21, e21, E21, A21, st21⟩ := newP X0 hx hZ (aty := .char) (w4 hw) e0 (g := (mkF m 30 #[iv pk, iv pc, .unset] [(.int 1)])) rfl (hb hby d14_30) rfl (by decide) (cap := 1) (by decide) (by decide) (by decide) (by decide)
        obtain ⟨b21, gq21⟩ : ∃ z, z = h0.size := ⟨_, rfl⟩
        rw [← gq21] at A21 st21
        have C22 : CHr Z consts_1 s.vm h0 s.vm h21 := CHr.trans C0 (CHr.ext E21 C0.1)
        have f23 : Arv Z h21 b21 kc21 .char (1 : Int32) [(.int 0)] (.int 0) := (Arv.new A21 (by decide)).pad (pad_rep [] (.int 0) 1)
        refine go_st (fun t k => st21 t k) ?_
        show Go _ _ _ _ (T21.setTop (mkF m 32 #[iv pk, iv pc, .unset] [(.ref b21)]))
        refine go_st (fun t k => XS.astoreN X21.here hx rfl (hb hby d14_32) rfl rfl (l' := #[iv pk, iv pc, rv b21]) rfl k) ?_
        show Go _ _ _ _ (T21.setTop (mkF m 33 #[iv pk, iv pc, rv b21] []))
        refine go_st (fun t k => XS.aloadN X21.here hx rfl (hb hby d14_33) rfl rfl k) ?_
        show Go _ _ _ _ (T21.setTop (mkF m 34 #[iv pk, iv pc, rv b21] [(.ref b21)]))
        refine go_st (fun t k => XS.iconst X21.here hx rfl (hb hby d14_34) k) ?_
        show Go _ _ _ _ (T21.setTop (mkF m 35 #[iv pk, iv pc, rv b21] [(.int 0), (.ref b21)]))
        refine go_st (fun t k => XS.iloadN X21.here hx rfl (hb hby d14_35) rfl k) ?_
        show Go _ _ _ _ (T21.setTop (mkF m 36 #[iv pk, iv pc, rv b21] [(.int pc), (.int 0), (.ref b21)]))
        refine go_st (fun t k => X21.ldcInt hx hown (mvT hZ (w5 hw)) (g := (mkF m 36 #[iv pk, iv pc, rv b21] [(.int pc), (.int 0), (.ref b21)])) rfl (hb hby d14_36) t k) ?_
        show Go _ _ _ _ (T21.setTop (mkF m 38 #[iv pk, iv pc, rv b21] [(.int 65535), (.int pc), (.int 0), (.ref b21)]))
        refine go_st (fun t k => XS.iand X21.here hx rfl (hb hby d14_38) rfl k) ?_
        show Go _ _ _ _ (T21.setTop (mkF m 39 #[iv pk, iv pc, rv b21] [(.int (pc &&& (65535 : Int32))), (.int 0), (.ref b21)]))
        refine go_st (fun t k => XS.i2c X21.here hx rfl (hb hby d14_39) rfl k) ?_
        show Go _ _ _ _ (T21.setTop (mkF m 40 #[iv pk, iv pc, rv b21] [(.int (((pc &&& (65535 : Int32))).toUInt32.toUInt16.toUInt32.toInt32)), (.int 0), (.ref b21)]))
        obtain ⟨zc24, zA24, zq24, zS24, zN24, zH24, zG24⟩ := id f23
        have hin24 : ¬ ((0 : Int32) < 0 ∨ zc24.slots.size ≤ ((0 : Int32)).toNatClampNeg) := inb_of zS24 ⟨by decide, by decide⟩
        obtain ⟨T24, h24, X24, e24, W24, st24⟩ := stC X21 hx hZ e21 zA24 (j := (0 : Int32)) hin24 (g := (mkF m 40 #[iv pk, iv pc, rv b21] [(.int (((pc &&& (65535 : Int32))).toUInt32.toUInt16.toUInt32.toInt32)), (.int 0), (.ref b21)])) rfl rfl (hb hby d14_40)
        have g_b21 : n0 ≤ b21 := Nat.le_trans (Nat.le_trans Z0 (Nat.le_refl _)) (Nat.le_of_eq gq21.symm)
        have N24 := Fr.snoc X24 N0 g_b21
        have C25 : CHr Z consts_1 s.vm h0 s.vm h24 := CHr.trans C22 (CHr.wr W24 (Safe.arv hZ.alike f23 (by decide)) C22.1)
        have f26 : Arv Z h24 b21 kc21 .char (1 : Int32) [(.int (nar .char (((pc &&& (65535 : Int32))).toUInt32.toUInt16.toUInt32.toInt32)))] (.int 0) := Arv.set zA24 zq24 zS24 zN24 zH24 zG24 (fits_nar_char _) W24 0 rfl (Nat.le_of_ble_eq_true rfl)
        refine go_st (fun t k => st24 t k) ?_
        show Go _ _ _ _ (T24.setTop (mkF m 41 #[iv pk, iv pc, rv b21] []))
        obtain ⟨T27, h27, X27, e27, E27, A27, D27, -, st27⟩ := newO X24 hx hZ hown (w6 hw) (w7 hw) (w8 hw) e24 (g := (mkF m 41 #[iv pk, iv pc, rv b21] [])) rfl (hb hby d14_41) (by decide) (by decide)
        obtain ⟨b27, gq27⟩ : ∃ z, z = h24.size := ⟨_, rfl⟩
        rw [← gq27] at A27 D27 st27
        have sn27 : Safe Z consts_1 s.vm h24 b27 := Safe.new (Nat.le_of_eq gq27.symm)
        have C28 : CHr Z consts_1 s.vm h0 s.vm h27 := CHr.trans C25 (CHr.ext E27 C25.1)
        have sf29 : Safe Z consts_1 s.vm h27 b27 := Safe.ext E27 C25.1 sn27
        have f30 : Fld Z h27 b27 "java/lang/String" "coder" "B" (.int 0) := D27 (Or.inr (w32 hw)) (ty := .byte) (by decide)
        have f31 : Fld Z h27 b27 "java/lang/String" "value" "[B" .null := D27 (Or.inr (w34 hw)) (ty := (.array .byte)) (by decide)
        refine go_st (fun t k => st27 t k) ?_
        show Go _ _ _ _ (T27.setTop (mkF m 44 #[iv pk, iv pc, rv b21] [(.ref b27)]))
        refine go_st (fun t k => XS.dup X27.here hx rfl (hb hby d14_44) rfl rfl k) ?_
        show Go _ _ _ _ (T27.setTop (mkF m 45 #[iv pk, iv pc, rv b21] [(.ref b27), (.ref b27)]))
        refine go_st (fun t k => XS.aloadN X27.here hx rfl (hb hby d14_45) rfl rfl k) ?_
        show Go _ _ _ _ (T27.setTop (mkF m 46 #[iv pk, iv pc, rv b21] [(.ref b21), (.ref b27), (.ref b27)]))
        have f32 : Arv Z h27 b21 kc21 .char (1 : Int32) [(.int (nar .char (((pc &&& (65535 : Int32))).toUInt32.toUInt16.toUInt32.toInt32)))] (.int 0) := (f26.ext E27)
        have sz33 : h0.size ≤ h24.size := (Nat.le_trans E21.1 (Nat.le_of_eq W24.size.symm))
        have g_b27 : n0 ≤ b27 := Nat.le_trans (Nat.le_trans Z0 sz33) (Nat.le_of_eq gq27.symm)
        have nq34 : b21 ≠ b27 := Nat.ne_of_lt (Nat.lt_of_lt_of_le (Nat.lt_of_lt_of_le f23.lt (Nat.le_of_eq W24.size.symm)) (Nat.le_of_eq gq27.symm))
        have oe35 : Old Z n0 h21 := (Old.ext O0 E21)
        have oe36 : Old Z n0 h24 := (Old.wr oe35 W24 g_b21)
        have oe37 : Old Z n0 h27 := (Old.ext oe36 E27)
        have sz38 : h0.size ≤ h27.size := (Nat.le_trans sz33 E27.1)
        obtain ⟨_, _, ⟨T39, L39, kk39, nn39⟩, -, X39, ⟨Lc39, hQ39, lq39, yq39, zq39⟩, st39⟩ := X27.specialBack hx (y := (⟨"java/lang/String", "<init>", "([C)V"⟩ : MethodName)) rfl hown (mvT hZ (w9 hw)) (mvT hZ (w10 hw)) (mvT hZ (w11 hw)) (by decide) (backOf (W := 1) (rm_s1_1 l Z a0 hw [] b27 b21 kc21 (nar .char (((pc &&& (65535 : Int32))).toUInt32.toUInt16.toUInt32.toInt32)) G1 h27 n0 (Nat.le_trans Z0 sz38) A27 f31 f30 f32 g_b27 (Ne.symm nq34) AD HB LB CS CSn (ch_rng _) oe37) hZ (w11 hw) (w8 hw) (by decide) (by decide)) (g := (mkF m 46 #[iv pk, iv pc, rv b21] [(.ref b21), (.ref b27), (.ref b27)])) rfl (by rw [hml]; rfl) (Steps.refl _) (a := b27) (argsL := [(.ref b21)]) (rest := [(.ref b27)]) (lenOf pd_10 rfl) rfl (by show 2 * 0 + _ ≤ _; exact Nat.le_of_eq rfl) (hb hby d14_46) (fun _ _ => ⟨rfl, e27, (by decide : 2 + 2 ≤ _), (by decide : 5 + 3 ≤ _)⟩)
        dsimp only [Pt.U, Pt.locs, Pt.cells, Pt.slots] at X39 lq39 yq39 zq39 st39 hQ39
        subst lq39 yq39 zq39
        obtain ⟨h39, e39⟩ : ∃ z, T39.heap = z := ⟨_, rfl⟩
        rw [e39] at hQ39
        obtain ⟨t_39, kb_39, N_39, vs_39, rfl, N39q, K39, gf39_0, lf39_0, p39_1, p39_2, p39_3, hN_39⟩ := hQ39
        have N39 := Fr.app N24 N39q
        have C40 : CHr Z consts_1 s.vm h0 s.vm h39 := CHr.trans C28 (CHr.keep K39 (sfS sf29 sf0) C28.1)
        have sf41 : Safe Z consts_1 s.vm h39 b27 := (Safe.keep K39 (sfS sf29 sf0) C28.1 sf29)
        refine go_tr st39 ?_
        show Go _ _ _ _ (T39.setTop (mkF m 49 #[iv pk, iv pc, rv b21] [(.ref b27)]))
        have sf42 : Safe Z consts_1 s.vm h39 t_39 := Safe.keep K39 (sfS sf29 sf0) C28.1 (Safe.new lf39_0)
        have ke43 : Keep h0 h21 [] := (Keep.ext (Keep.refl h0 []) E21)
        have ke44 : Keep h0 h24 [] := (Keep.wr ke43 W24 (Or.inr (Nat.le_of_eq gq21.symm)))
        have ke45 : Keep h0 h27 [] := (Keep.ext ke44 E27)
        have ke46 : Keep h0 h39 [] := (Keep.trans ke45 K39 (allS (Or.inr (Nat.le_trans sz33 (Nat.le_of_eq gq27.symm))) all0))
        have sz47 : h0.size ≤ h39.size := (Nat.le_trans sz38 K39.1)
        obtain ⟨fs, hr, hrun, hended, hR⟩ := X39.leaveW hS0 (by rw [e39]; exact (Nat.le_trans hk0 sz47)) (v := some (.ref b27)) (fun h => by rw [Bd.returns] at h; cases h)
        refine ⟨_, _, ?_, hrun, hended, _, _, rfl, ?_, ?_, hR.1, hR.2.1, hR.2.2.1, hR.2.2.2.mono (by decide) (by decide)⟩
        · exact retOut X39 hx Bd.returns rfl (Or.inr (Or.inr (Or.inr (Or.inr ⟨rfl, rfl, rfl⟩)))) (hb hby d14_49) hr
        · show Q_make _ _ _ _ _ _ _ T39.heap _
          rw [e39]
          exact ⟨(.ref b27), true, rfl, N39, ke46, rfl, (by rw [hc20]; decide), (Or.inr (Or.inr ⟨_, _, _, _, _, rfl, ⟨p39_1, p39_2, p39_3, hN_39⟩, rfl⟩))⟩
        · show CHr Z consts_1 s.vm s.heap T39.vm T39.heap
          rw [hh, e39]
          exact CHr.trans C40 (CHv.at X39 hZ (hEL hw) C40.1)
      · skip
        refine go_st (fun t k => XS.icmpYes X0.here hx rfl (pc0 := 26) (pc' := 50) rfl (hb hby d14_26) rfl (feq (hc20 : ¬ (pk = (2 : Int32)))).2 (by decide) (by decide) k) ?_
        show Go _ _ _ _ (s₁.setTop (mkF m 50 #[iv pk, iv pc, .unset] []))
        refine go_st (fun t k => XS.iconst X0.here hx rfl (hb hby d14_50) k) ?_
        show Go _ _ _ _ (s₁.setTop (mkF m 51 #[iv pk, iv pc, .unset] [(.int 2)]))
        obtain ⟨T48, h48, kc48, X48, e48, E48, A48, st48⟩ := newP X0 hx hZ (aty := .char) (w4 hw) e0 (g := (mkF m 51 #[iv pk, iv pc, .unset] [(.int 2)])) rfl (hb hby d14_51) rfl (by decide) (cap := 2) (by decide) (by decide) (by decide) (by decide)
        obtain ⟨b48, gq48⟩ : ∃ z, z = h0.size := ⟨_, rfl⟩
        rw [← gq48] at A48 st48
        have C49 : CHr Z consts_1 s.vm h0 s.vm h48 := CHr.trans C0 (CHr.ext E48 C0.1)
        have f50 : Arv Z h48 b48 kc48 .char (2 : Int32) [(.int 0), (.int 0)] (.int 0) := (Arv.new A48 (by decide)).pad (pad_rep [] (.int 0) 2)
        refine go_st (fun t k => st48 t k) ?_
        show Go _ _ _ _ (T48.setTop (mkF m 53 #[iv pk, iv pc, .unset] [(.ref b48)]))
        refine go_st (fun t k => XS.astoreN X48.here hx rfl (hb hby d14_53) rfl rfl (l' := #[iv pk, iv pc, rv b48]) rfl k) ?_
        show Go _ _ _ _ (T48.setTop (mkF m 54 #[iv pk, iv pc, rv b48] []))
        refine go_st (fun t k => XS.aloadN X48.here hx rfl (hb hby d14_54) rfl rfl k) ?_
        show Go _ _ _ _ (T48.setTop (mkF m 55 #[iv pk, iv pc, rv b48] [(.ref b48)]))
        refine go_st (fun t k => XS.iconst X48.here hx rfl (hb hby d14_55) k) ?_
        show Go _ _ _ _ (T48.setTop (mkF m 56 #[iv pk, iv pc, rv b48] [(.int 0), (.ref b48)]))
        refine go_st (fun t k => XS.iloadN X48.here hx rfl (hb hby d14_56) rfl k) ?_
        show Go _ _ _ _ (T48.setTop (mkF m 57 #[iv pk, iv pc, rv b48] [(.int pc), (.int 0), (.ref b48)]))
        refine go_st (fun t k => X48.ldcInt hx hown (mvT hZ (w5 hw)) (g := (mkF m 57 #[iv pk, iv pc, rv b48] [(.int pc), (.int 0), (.ref b48)])) rfl (hb hby d14_57) t k) ?_
        show Go _ _ _ _ (T48.setTop (mkF m 59 #[iv pk, iv pc, rv b48] [(.int 65535), (.int pc), (.int 0), (.ref b48)]))
        refine go_st (fun t k => XS.iand X48.here hx rfl (hb hby d14_59) rfl k) ?_
        show Go _ _ _ _ (T48.setTop (mkF m 60 #[iv pk, iv pc, rv b48] [(.int (pc &&& (65535 : Int32))), (.int 0), (.ref b48)]))
        refine go_st (fun t k => XS.i2c X48.here hx rfl (hb hby d14_60) rfl k) ?_
        show Go _ _ _ _ (T48.setTop (mkF m 61 #[iv pk, iv pc, rv b48] [(.int (((pc &&& (65535 : Int32))).toUInt32.toUInt16.toUInt32.toInt32)), (.int 0), (.ref b48)]))
        obtain ⟨zc51, zA51, zq51, zS51, zN51, zH51, zG51⟩ := id f50
        have hin51 : ¬ ((0 : Int32) < 0 ∨ zc51.slots.size ≤ ((0 : Int32)).toNatClampNeg) := inb_of zS51 ⟨by decide, by decide⟩
        obtain ⟨T51, h51, X51, e51, W51, st51⟩ := stC X48 hx hZ e48 zA51 (j := (0 : Int32)) hin51 (g := (mkF m 61 #[iv pk, iv pc, rv b48] [(.int (((pc &&& (65535 : Int32))).toUInt32.toUInt16.toUInt32.toInt32)), (.int 0), (.ref b48)])) rfl rfl (hb hby d14_61)
        have g_b48 : n0 ≤ b48 := Nat.le_trans (Nat.le_trans Z0 (Nat.le_refl _)) (Nat.le_of_eq gq48.symm)
        have N51 := Fr.snoc X51 N0 g_b48
        have C52 : CHr Z consts_1 s.vm h0 s.vm h51 := CHr.trans C49 (CHr.wr W51 (Safe.arv hZ.alike f50 (by decide)) C49.1)
        have f53 : Arv Z h51 b48 kc48 .char (2 : Int32) [(.int (nar .char (((pc &&& (65535 : Int32))).toUInt32.toUInt16.toUInt32.toInt32))), (.int 0)] (.int 0) := Arv.set zA51 zq51 zS51 zN51 zH51 zG51 (fits_nar_char _) W51 0 rfl (Nat.le_of_ble_eq_true rfl)
        refine go_st (fun t k => st51 t k) ?_
        show Go _ _ _ _ (T51.setTop (mkF m 62 #[iv pk, iv pc, rv b48] []))
        refine go_st (fun t k => XS.aloadN X51.here hx rfl (hb hby d14_62) rfl rfl k) ?_
        show Go _ _ _ _ (T51.setTop (mkF m 63 #[iv pk, iv pc, rv b48] [(.ref b48)]))
        refine go_st (fun t k => XS.iconst X51.here hx rfl (hb hby d14_63) k) ?_
        show Go _ _ _ _ (T51.setTop (mkF m 64 #[iv pk, iv pc, rv b48] [(.int 1), (.ref b48)]))
        refine go_st (fun t k => XS.iloadN X51.here hx rfl (hb hby d14_64) rfl k) ?_
        show Go _ _ _ _ (T51.setTop (mkF m 65 #[iv pk, iv pc, rv b48] [(.int pc), (.int 1), (.ref b48)]))
        refine go_st (fun t k => XS.bipush X51.here hx rfl (hb hby d14_65) k) ?_
        show Go _ _ _ _ (T51.setTop (mkF m 67 #[iv pk, iv pc, rv b48] [(.int 16), (.int pc), (.int 1), (.ref b48)]))
        refine go_st (fun t k => XS.iushr X51.here hx rfl (hb hby d14_67) rfl k) ?_
        show Go _ _ _ _ (T51.setTop (mkF m 68 #[iv pk, iv pc, rv b48] [(.int ((pc).toUInt32 >>> ((16 : Int32) &&& 31).toUInt32).toInt32), (.int 1), (.ref b48)]))
        refine go_st (fun t k => X51.ldcInt hx hown (mvT hZ (w5 hw)) (g := (mkF m 68 #[iv pk, iv pc, rv b48] [(.int ((pc).toUInt32 >>> ((16 : Int32) &&& 31).toUInt32).toInt32), (.int 1), (.ref b48)])) rfl (hb hby d14_68) t k) ?_
        show Go _ _ _ _ (T51.setTop (mkF m 70 #[iv pk, iv pc, rv b48] [(.int 65535), (.int ((pc).toUInt32 >>> ((16 : Int32) &&& 31).toUInt32).toInt32), (.int 1), (.ref b48)]))
        refine go_st (fun t k => XS.iand X51.here hx rfl (hb hby d14_70) rfl k) ?_
        show Go _ _ _ _ (T51.setTop (mkF m 71 #[iv pk, iv pc, rv b48] [(.int (((pc).toUInt32 >>> ((16 : Int32) &&& 31).toUInt32).toInt32 &&& (65535 : Int32))), (.int 1), (.ref b48)]))
        refine go_st (fun t k => XS.i2c X51.here hx rfl (hb hby d14_71) rfl k) ?_
        show Go _ _ _ _ (T51.setTop (mkF m 72 #[iv pk, iv pc, rv b48] [(.int (((((pc).toUInt32 >>> ((16 : Int32) &&& 31).toUInt32).toInt32 &&& (65535 : Int32))).toUInt32.toUInt16.toUInt32.toInt32)), (.int 1), (.ref b48)]))
        obtain ⟨zc54, zA54, zq54, zS54, zN54, zH54, zG54⟩ := id f53
        have hin54 : ¬ ((1 : Int32) < 0 ∨ zc54.slots.size ≤ ((1 : Int32)).toNatClampNeg) := inb_of zS54 ⟨by decide, by decide⟩
        obtain ⟨T54, h54, X54, e54, W54, st54⟩ := stC X51 hx hZ e51 zA54 (j := (1 : Int32)) hin54 (g := (mkF m 72 #[iv pk, iv pc, rv b48] [(.int (((((pc).toUInt32 >>> ((16 : Int32) &&& 31).toUInt32).toInt32 &&& (65535 : Int32))).toUInt32.toUInt16.toUInt32.toInt32)), (.int 1), (.ref b48)])) rfl rfl (hb hby d14_72)
        have N54 := Fr.snoc X54 N51 g_b48
        have C55 : CHr Z consts_1 s.vm h0 s.vm h54 := CHr.trans C52 (CHr.wr W54 (Safe.arv hZ.alike f53 (by decide)) C52.1)
        have f56 : Arv Z h54 b48 kc48 .char (2 : Int32) [(.int (nar .char (((pc &&& (65535 : Int32))).toUInt32.toUInt16.toUInt32.toInt32))), (.int (nar .char (((((pc).toUInt32 >>> ((16 : Int32) &&& 31).toUInt32).toInt32 &&& (65535 : Int32))).toUInt32.toUInt16.toUInt32.toInt32)))] (.int 0) := Arv.set zA54 zq54 zS54 zN54 zH54 zG54 (fits_nar_char _) W54 1 rfl (Nat.le_of_ble_eq_true rfl)
        refine go_st (fun t k => st54 t k) ?_
        show Go _ _ _ _ (T54.setTop (mkF m 73 #[iv pk, iv pc, rv b48] []))
        obtain ⟨T57, h57, X57, e57, E57, A57, D57, -, st57⟩ := newO X54 hx hZ hown (w6 hw) (w7 hw) (w8 hw) e54 (g := (mkF m 73 #[iv pk, iv pc, rv b48] [])) rfl (hb hby d14_73) (by decide) (by decide)
        obtain ⟨b57, gq57⟩ : ∃ z, z = h54.size := ⟨_, rfl⟩
        rw [← gq57] at A57 D57 st57
        have sn57 : Safe Z consts_1 s.vm h54 b57 := Safe.new (Nat.le_of_eq gq57.symm)
        have C58 : CHr Z consts_1 s.vm h0 s.vm h57 := CHr.trans C55 (CHr.ext E57 C55.1)
        have sf59 : Safe Z consts_1 s.vm h57 b57 := Safe.ext E57 C55.1 sn57
        have f60 : Fld Z h57 b57 "java/lang/String" "coder" "B" (.int 0) := D57 (Or.inr (w32 hw)) (ty := .byte) (by decide)
        have f61 : Fld Z h57 b57 "java/lang/String" "value" "[B" .null := D57 (Or.inr (w34 hw)) (ty := (.array .byte)) (by decide)
        refine go_st (fun t k => st57 t k) ?_
        show Go _ _ _ _ (T57.setTop (mkF m 76 #[iv pk, iv pc, rv b48] [(.ref b57)]))
        refine go_st (fun t k => XS.dup X57.here hx rfl (hb hby d14_76) rfl rfl k) ?_
        show Go _ _ _ _ (T57.setTop (mkF m 77 #[iv pk, iv pc, rv b48] [(.ref b57), (.ref b57)]))
        refine go_st (fun t k => XS.aloadN X57.here hx rfl (hb hby d14_77) rfl rfl k) ?_
        show Go _ _ _ _ (T57.setTop (mkF m 78 #[iv pk, iv pc, rv b48] [(.ref b48), (.ref b57), (.ref b57)]))
        have f62 : Arv Z h57 b48 kc48 .char (2 : Int32) [(.int (nar .char (((pc &&& (65535 : Int32))).toUInt32.toUInt16.toUInt32.toInt32))), (.int (nar .char (((((pc).toUInt32 >>> ((16 : Int32) &&& 31).toUInt32).toInt32 &&& (65535 : Int32))).toUInt32.toUInt16.toUInt32.toInt32)))] (.int 0) := (f56.ext E57)
        have sz63 : h0.size ≤ h51.size := (Nat.le_trans E48.1 (Nat.le_of_eq W51.size.symm))
        have sz64 : h0.size ≤ h54.size := (Nat.le_trans sz63 (Nat.le_of_eq W54.size.symm))
        have g_b57 : n0 ≤ b57 := Nat.le_trans (Nat.le_trans Z0 sz64) (Nat.le_of_eq gq57.symm)
        have sz65 : h48.size ≤ h54.size := (Nat.le_trans (Nat.le_of_eq W51.size.symm) (Nat.le_of_eq W54.size.symm))
        have nq66 : b48 ≠ b57 := Nat.ne_of_lt (Nat.lt_of_lt_of_le (Nat.lt_of_lt_of_le f50.lt sz65) (Nat.le_of_eq gq57.symm))
        have oe67 : Old Z n0 h48 := (Old.ext O0 E48)
        have oe68 : Old Z n0 h51 := (Old.wr oe67 W51 g_b48)
        have oe69 : Old Z n0 h54 := (Old.wr oe68 W54 g_b48)
        have oe70 : Old Z n0 h57 := (Old.ext oe69 E57)
        have sz71 : h0.size ≤ h57.size := (Nat.le_trans sz64 E57.1)
        obtain ⟨_, _, ⟨T72, L72, kk72, nn72⟩, -, X72, ⟨Lc72, hQ72, lq72, yq72, zq72⟩, st72⟩ := X57.specialBack hx (y := (⟨"java/lang/String", "<init>", "([C)V"⟩ : MethodName)) rfl hown (mvT hZ (w9 hw)) (mvT hZ (w10 hw)) (mvT hZ (w11 hw)) (by decide) (backOf (W := 1) (rm_s1_2 l Z a0 hw [] b57 b48 kc48 (nar .char (((pc &&& (65535 : Int32))).toUInt32.toUInt16.toUInt32.toInt32)) (nar .char (((((pc).toUInt32 >>> ((16 : Int32) &&& 31).toUInt32).toInt32 &&& (65535 : Int32))).toUInt32.toUInt16.toUInt32.toInt32)) G1 h57 n0 (Nat.le_trans Z0 sz71) A57 f61 f60 f62 g_b57 (Ne.symm nq66) AD HB LB CS CSn (ch_rng _) (ch_rng _) oe70) hZ (w11 hw) (w8 hw) (by decide) (by decide)) (g := (mkF m 78 #[iv pk, iv pc, rv b48] [(.ref b48), (.ref b57), (.ref b57)])) rfl (by rw [hml]; rfl) (Steps.refl _) (a := b57) (argsL := [(.ref b48)]) (rest := [(.ref b57)]) (lenOf pd_10 rfl) rfl (by show 2 * 0 + _ ≤ _; exact Nat.le_of_eq rfl) (hb hby d14_78) (fun _ _ => ⟨rfl, e57, (by decide : 2 + 2 ≤ _), (by decide : 6 + 6 ≤ _)⟩)
        dsimp only [Pt.U, Pt.locs, Pt.cells, Pt.slots] at X72 lq72 yq72 zq72 st72 hQ72
        subst lq72 yq72 zq72
        obtain ⟨h72, e72⟩ : ∃ z, T72.heap = z := ⟨_, rfl⟩
        rw [e72] at hQ72
        obtain ⟨t_72, kb_72, N_72, vs_72, rfl, N72q, K72, gf72_0, lf72_0, p72_1, p72_2, p72_3, hN_72⟩ := hQ72
        have N72 := Fr.app N54 N72q
        have C73 : CHr Z consts_1 s.vm h0 s.vm h72 := CHr.trans C58 (CHr.keep K72 (sfS sf59 sf0) C58.1)
        have sf74 : Safe Z consts_1 s.vm h72 b57 := (Safe.keep K72 (sfS sf59 sf0) C58.1 sf59)
        refine go_tr st72 ?_
        show Go _ _ _ _ (T72.setTop (mkF m 81 #[iv pk, iv pc, rv b48] [(.ref b57)]))
        have sf75 : Safe Z consts_1 s.vm h72 t_72 := Safe.keep K72 (sfS sf59 sf0) C58.1 (Safe.new lf72_0)
        have ke76 : Keep h0 h48 [] := (Keep.ext (Keep.refl h0 []) E48)
        have ke77 : Keep h0 h51 [] := (Keep.wr ke76 W51 (Or.inr (Nat.le_of_eq gq48.symm)))
        have ke78 : Keep h0 h54 [] := (Keep.wr ke77 W54 (Or.inr (Nat.le_of_eq gq48.symm)))
        have ke79 : Keep h0 h57 [] := (Keep.ext ke78 E57)
        have ke80 : Keep h0 h72 [] := (Keep.trans ke79 K72 (allS (Or.inr (Nat.le_trans sz64 (Nat.le_of_eq gq57.symm))) all0))
        have sz81 : h0.size ≤ h72.size := (Nat.le_trans sz71 K72.1)
        obtain ⟨fs, hr, hrun, hended, hR⟩ := X72.leaveW hS0 (by rw [e72]; exact (Nat.le_trans hk0 sz81)) (v := some (.ref b57)) (fun h => by rw [Bd.returns] at h; cases h)
        refine ⟨_, _, ?_, hrun, hended, _, _, rfl, ?_, ?_, hR.1, hR.2.1, hR.2.2.1, hR.2.2.2.mono (by decide) (by decide)⟩
        · exact retOut X72 hx Bd.returns rfl (Or.inr (Or.inr (Or.inr (Or.inr ⟨rfl, rfl, rfl⟩)))) (hb hby d14_81) hr
        · show Q_make _ _ _ _ _ _ _ T72.heap _
          rw [e72]
          exact ⟨(.ref b57), true, rfl, N72, ke80, rfl, (by rw [hk3 hc1 hc2 hc20]; decide), (Or.inr (Or.inr ⟨_, _, _, _, _, rfl, ⟨p72_1, p72_2, p72_3, hN_72⟩, rfl⟩))⟩
        · show CHr Z consts_1 s.vm s.heap T72.vm T72.heap
          rw [hh, e72]
          exact CHr.trans C73 (CHv.at X72 hZ (hEL hw) C73.1)
def Q_law (Z : State) (p0 : Int32) (p1 : Int32) (p2 : Int32) (p3 : Int32) (G1 : Int32) (h0 : Heap) (n0 : Nat) (vR : Option Value) (h : Heap) (L : List Loc) : Prop := vR = some (.int 1) ∧ Fr n0 L ∧ Keep h0 h []
theorem ef_law (m : MethodId) (x0 : Int32) (x1 : Int32) (x2 : Int32) (x3 : Int32) : entryFrame m #[(.int x0), (.int x1), (.int x2), (.int x3)] maxLocals = mkF m 0 #[.val (.int x0), .val (.int x1), .val (.int x2), .val (.int x3), .unset, .unset, .unset, .unset, .unset, .unset, .unset, .unset] [] := by first | (simp [entryFrame, mkF, argsToLocals, Value.category, maxLocals]; done) | rfl
set_option maxRecDepth 65536 in
set_option maxHeartbeats 40000000 in
theorem rm_law (l : Launch) (Z : State) (a0 : Array Value) (hw : ∀ d ∈ tables_1, d.before a0 Z = true) (ws : List Jvm.Cond) (p0 : Int32) (p1 : Int32) (p2 : Int32) (p3 : Int32) (G1 : Int32) (h0 : Heap) (n0 : Nat) (Z0 : n0 ≤ h0.size) (CS : Sta Z Z.heap "java/lang/String" "COMPACT_STRINGS" "Z" (.int G1)) (CSn : ¬ (G1 = (0 : Int32))) (AD : Sta Z Z.heap "java/lang/StringUTF16" "$assertionsDisabled" "Z" (.int (1 : Int32))) (HB : Sta Z Z.heap "java/lang/StringUTF16" "HI_BYTE_SHIFT" "I" (.int (0 : Int32))) (LB : Sta Z Z.heap "java/lang/StringUTF16" "LO_BYTE_SHIFT" "I" (.int (8 : Int32))) (O0 : Old Z n0 h0) :
    MetFree l x (head1 (Jvm.Cond.code x code maxLocals ret :: ws) room_1) (fun a U => a = #[(.int p0), (.int p1), (.int p2), (.int p3)] ∧ Z.Warmed39 U.vm ∧ U.heap = h0 ∧ CHv Z consts_1 U.vm h0) (fun _ _ _ _ _ => True) (fun _ U o U' => ∃ v L, o = .returned v ∧ Q_law Z p0 p1 p2 p3 G1 h0 n0 v U'.heap L ∧ CHr Z consts_1 U.vm U.heap U'.vm U'.heap ∧ ReturnedEndW U o U' L room_1.cells room_1.slots) := by
  refine MetFree.of_bodySF (plainFor_of_name pn_com_example_credence_credence_CredentialsBlankPinLaw) hisR ?_
  intro p e s m args below meth c s₁ Bd hml0 hP hK
  obtain ⟨rfl, hZs, hh, HC0⟩ := hP
  have hx := Bd.exec
  have hby := Bd.bytes
  have hml : c.maxLocals = 12 := hml0
  have hZ : Z.Warmed39 (s.setVm s.vm).vm := hZs
  have hown : (s.setVm s.vm).vm.findClass "com/example/credence/credence/CredentialsBlankPinLaw" = some m.cls := findClass_of_methodNamed Bd.named
  have hnm := (name_of_methodNamed Bd.named Bd.method).1
  have X0 : Stand p l e room_1 (s.setVm s.vm) m #[(.int p0), (.int p1), (.int p2), (.int p3)] below meth c s₁ [] 0 0 := Stand.of_body Bd
  have e0 : s₁.heap = h0 := by rw [← hh, Bd.state]; rfl
  have N0 := Fr.nil n0
  have hS0 : s.Since s.vm s.heap.size := (State.WarmedH.refl s).since _
  have hk0 : s.heap.size ≤ h0.size := Nat.le_of_eq (congrArg Array.size hh)
  have C0 : CHr Z consts_1 s.vm h0 s.vm h0 := CHr.refl HC0
  refine go_st (fun t k => castTop (ef_law m p0 p1 p2 p3) k) ?_
  show Go _ _ _ _ (s₁.setTop (mkF m 0 #[iv p0, iv p1, iv p2, iv p3, .unset, .unset, .unset, .unset, .unset, .unset, .unset, .unset] []))
  refine go_st (fun t k => XS.iloadN X0.here hx rfl (hb hby at_0) rfl k) ?_
  show Go _ _ _ _ (s₁.setTop (mkF m 1 #[iv p0, iv p1, iv p2, iv p3, .unset, .unset, .unset, .unset, .unset, .unset, .unset, .unset] [(.int p0)]))
  refine go_st (fun t k => XS.iconst X0.here hx rfl (hb hby at_1) k) ?_
  show Go _ _ _ _ (s₁.setTop (mkF m 2 #[iv p0, iv p1, iv p2, iv p3, .unset, .unset, .unset, .unset, .unset, .unset, .unset, .unset] [(.int 3), (.int p0)]))
  refine go_st (fun t k => XS.iand X0.here hx rfl (hb hby at_2) rfl k) ?_
  show Go _ _ _ _ (s₁.setTop (mkF m 3 #[iv p0, iv p1, iv p2, iv p3, .unset, .unset, .unset, .unset, .unset, .unset, .unset, .unset] [(.int (p0 &&& (3 : Int32)))]))
  refine go_st (fun t k => XS.istore X0.here hx rfl (hb hby at_3) rfl (l' := #[iv p0, iv p1, iv p2, iv p3, iv (p0 &&& (3 : Int32)), .unset, .unset, .unset, .unset, .unset, .unset, .unset]) rfl k) ?_
  show Go _ _ _ _ (s₁.setTop (mkF m 5 #[iv p0, iv p1, iv p2, iv p3, iv (p0 &&& (3 : Int32)), .unset, .unset, .unset, .unset, .unset, .unset, .unset] []))
  refine go_st (fun t k => XS.iloadN X0.here hx rfl (hb hby at_5) rfl k) ?_
  show Go _ _ _ _ (s₁.setTop (mkF m 6 #[iv p0, iv p1, iv p2, iv p3, iv (p0 &&& (3 : Int32)), .unset, .unset, .unset, .unset, .unset, .unset, .unset] [(.int p2)]))
  refine go_st (fun t k => XS.iconst X0.here hx rfl (hb hby at_6) k) ?_
  show Go _ _ _ _ (s₁.setTop (mkF m 7 #[iv p0, iv p1, iv p2, iv p3, iv (p0 &&& (3 : Int32)), .unset, .unset, .unset, .unset, .unset, .unset, .unset] [(.int 3), (.int p2)]))
  refine go_st (fun t k => XS.iand X0.here hx rfl (hb hby at_7) rfl k) ?_
  show Go _ _ _ _ (s₁.setTop (mkF m 8 #[iv p0, iv p1, iv p2, iv p3, iv (p0 &&& (3 : Int32)), .unset, .unset, .unset, .unset, .unset, .unset, .unset] [(.int (p2 &&& (3 : Int32)))]))
  refine go_st (fun t k => XS.istore X0.here hx rfl (hb hby at_8) rfl (l' := #[iv p0, iv p1, iv p2, iv p3, iv (p0 &&& (3 : Int32)), iv (p2 &&& (3 : Int32)), .unset, .unset, .unset, .unset, .unset, .unset]) rfl k) ?_
  show Go _ _ _ _ (s₁.setTop (mkF m 10 #[iv p0, iv p1, iv p2, iv p3, iv (p0 &&& (3 : Int32)), iv (p2 &&& (3 : Int32)), .unset, .unset, .unset, .unset, .unset, .unset] []))
  refine go_st (fun t k => XS.iload X0.here hx rfl (hb hby at_10) rfl k) ?_
  show Go _ _ _ _ (s₁.setTop (mkF m 12 #[iv p0, iv p1, iv p2, iv p3, iv (p0 &&& (3 : Int32)), iv (p2 &&& (3 : Int32)), .unset, .unset, .unset, .unset, .unset, .unset] [(.int (p0 &&& (3 : Int32)))]))
  refine go_st (fun t k => XS.iloadN X0.here hx rfl (hb hby at_12) rfl k) ?_
  show Go _ _ _ _ (s₁.setTop (mkF m 13 #[iv p0, iv p1, iv p2, iv p3, iv (p0 &&& (3 : Int32)), iv (p2 &&& (3 : Int32)), .unset, .unset, .unset, .unset, .unset, .unset] [(.int p1), (.int (p0 &&& (3 : Int32)))]))
  obtain ⟨_, _, ⟨T1, L1, kk1, nn1⟩, -, X1, hs21, hg1, ⟨Lc1, hQ1, lq1, yq1, zq1, hC1⟩, st1⟩ := callSS X0 hx (y := (⟨"com/example/credence/credence/CredentialsBlankPinLaw", "make", "(II)Ljava/lang/String;"⟩ : MethodName)) hown (mvT hZ (w0 hw)) (mvT hZ (w1 hw)) (mvT hZ (w2 hw)) (mvT hZ (w3 hw)) (by decide) (backOfSH (vm0 := s.vm) (W := 0) (rm_make l Z a0 hw [] (p0 &&& (3 : Int32)) p1 G1 h0 n0 (Nat.le_trans Z0 (Nat.le_refl _)) CS CSn AD HB LB (fun a b c => and3_3 a b c) O0) hZ (w3 hw) (w2 hw) (by decide) (by decide) (hEL hw) C0.1) (g := (mkF m 13 #[iv p0, iv p1, iv p2, iv p3, iv (p0 &&& (3 : Int32)), iv (p2 &&& (3 : Int32)), .unset, .unset, .unset, .unset, .unset, .unset] [(.int p1), (.int (p0 &&& (3 : Int32)))])) rfl (by rw [hml]; rfl) (argsL := [(.int (p0 &&& (3 : Int32))), (.int p1)]) (rest := []) (lenOf pd_11 rfl) rfl (by show 2 * 0 + _ ≤ _; exact Nat.le_of_eq rfl) (hb hby at_13) (fun _ _ => ⟨rfl, e0, (by decide : 0 + 6 ≤ _), (by decide : 0 + 12 ≤ _)⟩)
  dsimp only [Pt.U, Pt.locs, Pt.cells, Pt.slots] at X1 hs21 hg1 lq1 yq1 zq1 st1 hQ1 hC1
  subst lq1 yq1 zq1
  rw [e0] at hg1
  obtain ⟨X1, hS1, hZ1, hown1⟩ := rebS (vm0 := s.vm) hS0 (Nat.le_trans hk0 (Nat.le_refl _)) X1 hs21 hg1 hZ hown
  obtain ⟨h1, e1⟩ : ∃ z, T1.heap = z := ⟨_, rfl⟩
  rw [e1] at hQ1 hg1 hC1 hS1
  obtain ⟨v_1, ne_1, rfl, N1q, K1, hv_1, hne_1, p1_2⟩ := hQ1
  have N1 := Fr.app N0 N1q
  have C2 : CHr Z consts_1 s.vm h0 T1.vm h1 := CHr.trans C0 hC1
  refine go_tr st1 ?_
  show Go _ _ _ _ (T1.setTop (mkF m 16 #[iv p0, iv p1, iv p2, iv p3, iv (p0 &&& (3 : Int32)), iv (p2 &&& (3 : Int32)), .unset, .unset, .unset, .unset, .unset, .unset] [v_1]))
  refine go_st (fun t k => XS.astore X1.here hx rfl (hb hby at_16) rfl hv_1 (l' := #[iv p0, iv p1, iv p2, iv p3, iv (p0 &&& (3 : Int32)), iv (p2 &&& (3 : Int32)), .val v_1, .unset, .unset, .unset, .unset, .unset]) (XS.store1 rfl (Or.inl rfl) (ref_cat hv_1)) k) ?_
  show Go _ _ _ _ (T1.setTop (mkF m 18 #[iv p0, iv p1, iv p2, iv p3, iv (p0 &&& (3 : Int32)), iv (p2 &&& (3 : Int32)), .val v_1, .unset, .unset, .unset, .unset, .unset] []))
  refine go_st (fun t k => XS.iload X1.here hx rfl (hb hby at_18) rfl k) ?_
  show Go _ _ _ _ (T1.setTop (mkF m 20 #[iv p0, iv p1, iv p2, iv p3, iv (p0 &&& (3 : Int32)), iv (p2 &&& (3 : Int32)), .val v_1, .unset, .unset, .unset, .unset, .unset] [(.int (p2 &&& (3 : Int32)))]))
  refine go_st (fun t k => XS.iloadN X1.here hx rfl (hb hby at_20) rfl k) ?_
  show Go _ _ _ _ (T1.setTop (mkF m 21 #[iv p0, iv p1, iv p2, iv p3, iv (p0 &&& (3 : Int32)), iv (p2 &&& (3 : Int32)), .val v_1, .unset, .unset, .unset, .unset, .unset] [(.int p3), (.int (p2 &&& (3 : Int32)))]))
  have oe3 : Old Z n0 h1 := (Old.keep O0 K1 all0)
  obtain ⟨_, _, ⟨T4, L4, kk4, nn4⟩, -, X4, hs24, hg4, ⟨Lc4, hQ4, lq4, yq4, zq4, hC4⟩, st4⟩ := callSS X1 hx (y := (⟨"com/example/credence/credence/CredentialsBlankPinLaw", "make", "(II)Ljava/lang/String;"⟩ : MethodName)) hown1 (mvT hZ1 (w0 hw)) (mvT hZ1 (w1 hw)) (mvT hZ1 (w2 hw)) (mvT hZ1 (w3 hw)) (by decide) (backOfSH (vm0 := T1.vm) (W := 0) (rm_make l Z a0 hw [] (p2 &&& (3 : Int32)) p3 G1 h1 n0 (Nat.le_trans Z0 K1.1) CS CSn AD HB LB (fun a b c => and3_3 a b c) oe3) hZ1 (w3 hw) (w2 hw) (by decide) (by decide) (hEL hw) C2.1) (g := (mkF m 21 #[iv p0, iv p1, iv p2, iv p3, iv (p0 &&& (3 : Int32)), iv (p2 &&& (3 : Int32)), .val v_1, .unset, .unset, .unset, .unset, .unset] [(.int p3), (.int (p2 &&& (3 : Int32)))])) rfl (by rw [hml]; rfl) (argsL := [(.int (p2 &&& (3 : Int32))), (.int p3)]) (rest := []) (lenOf pd_11 rfl) rfl (by show 2 * 0 + _ ≤ _; exact Nat.le_of_eq rfl) (hb hby at_21) (fun _ _ => ⟨rfl, e1, (by decide : 6 + 6 ≤ _), (by decide : 12 + 12 ≤ _)⟩)
  dsimp only [Pt.U, Pt.locs, Pt.cells, Pt.slots] at X4 hs24 hg4 lq4 yq4 zq4 st4 hQ4 hC4
  subst lq4 yq4 zq4
  rw [e1] at hg4
  obtain ⟨X4, hS4, hZ4, hown4⟩ := rebS (vm0 := T1.vm) hS1 (Nat.le_trans (Nat.le_refl _) (Nat.le_refl _)) X4 hs24 hg4 hZ1 hown1
  obtain ⟨h4, e4⟩ : ∃ z, T4.heap = z := ⟨_, rfl⟩
  rw [e4] at hQ4 hg4 hC4 hS4
  obtain ⟨v_4, ne_4, rfl, N4q, K4, hv_4, hne_4, p4_2⟩ := hQ4
  have N4 := Fr.app N1 N4q
  have C5 : CHr Z consts_1 s.vm h0 T4.vm h4 := CHr.trans C2 hC4
  refine go_tr st4 ?_
  show Go _ _ _ _ (T4.setTop (mkF m 24 #[iv p0, iv p1, iv p2, iv p3, iv (p0 &&& (3 : Int32)), iv (p2 &&& (3 : Int32)), .val v_1, .unset, .unset, .unset, .unset, .unset] [v_4]))
  refine go_st (fun t k => XS.astore X4.here hx rfl (hb hby at_24) rfl hv_4 (l' := #[iv p0, iv p1, iv p2, iv p3, iv (p0 &&& (3 : Int32)), iv (p2 &&& (3 : Int32)), .val v_1, .val v_4, .unset, .unset, .unset, .unset]) (XS.store1 rfl (Or.inl rfl) (ref_cat hv_4)) k) ?_
  show Go _ _ _ _ (T4.setTop (mkF m 26 #[iv p0, iv p1, iv p2, iv p3, iv (p0 &&& (3 : Int32)), iv (p2 &&& (3 : Int32)), .val v_1, .val v_4, .unset, .unset, .unset, .unset] []))
  obtain ⟨T6, h6, X6, e6, E6, A6, D6, -, st6⟩ := newO X4 hx hZ4 hown4 (w35 hw) (w36 hw) (w37 hw) e4 (g := (mkF m 26 #[iv p0, iv p1, iv p2, iv p3, iv (p0 &&& (3 : Int32)), iv (p2 &&& (3 : Int32)), .val v_1, .val v_4, .unset, .unset, .unset, .unset] [])) rfl (hb hby at_26) (by decide) (by decide)
  obtain ⟨b6, gq6⟩ : ∃ z, z = h4.size := ⟨_, rfl⟩
  rw [← gq6] at A6 D6 st6
  have C7 : CHr Z consts_1 s.vm h0 T4.vm h6 := CHr.trans C5 (CHr.ext E6 C5.1)
  have f8 : Fld Z h6 b6 "com/example/credence/credence/Credentials" "username" "Ljava/lang/String;" .null := D6 (Or.inr (w48 hw)) (ty := (.object "java/lang/String")) (by decide)
  have f9 : Fld Z h6 b6 "com/example/credence/credence/Credentials" "password" "Ljava/lang/String;" .null := D6 (Or.inr (w50 hw)) (ty := (.object "java/lang/String")) (by decide)
  refine go_st (fun t k => st6 t k) ?_
  show Go _ _ _ _ (T6.setTop (mkF m 29 #[iv p0, iv p1, iv p2, iv p3, iv (p0 &&& (3 : Int32)), iv (p2 &&& (3 : Int32)), .val v_1, .val v_4, .unset, .unset, .unset, .unset] [(.ref b6)]))
  refine go_st (fun t k => XS.dup X6.here hx rfl (hb hby at_29) rfl rfl k) ?_
  show Go _ _ _ _ (T6.setTop (mkF m 30 #[iv p0, iv p1, iv p2, iv p3, iv (p0 &&& (3 : Int32)), iv (p2 &&& (3 : Int32)), .val v_1, .val v_4, .unset, .unset, .unset, .unset] [(.ref b6), (.ref b6)]))
  refine go_st (fun t k => XS.aload X6.here hx rfl (hb hby at_30) rfl hv_1 k) ?_
  show Go _ _ _ _ (T6.setTop (mkF m 32 #[iv p0, iv p1, iv p2, iv p3, iv (p0 &&& (3 : Int32)), iv (p2 &&& (3 : Int32)), .val v_1, .val v_4, .unset, .unset, .unset, .unset] [v_1, (.ref b6), (.ref b6)]))
  refine go_st (fun t k => XS.aload X6.here hx rfl (hb hby at_32) rfl hv_4 k) ?_
  show Go _ _ _ _ (T6.setTop (mkF m 34 #[iv p0, iv p1, iv p2, iv p3, iv (p0 &&& (3 : Int32)), iv (p2 &&& (3 : Int32)), .val v_1, .val v_4, .unset, .unset, .unset, .unset] [v_4, v_1, (.ref b6), (.ref b6)]))
  have sz10 : h0.size ≤ h4.size := (Nat.le_trans K1.1 K4.1)
  have g_b6 : n0 ≤ b6 := Nat.le_trans (Nat.le_trans Z0 sz10) (Nat.le_of_eq gq6.symm)
  have sz11 : h0.size ≤ h6.size := (Nat.le_trans sz10 E6.1)
  obtain ⟨_, _, ⟨T12, L12, kk12, nn12⟩, -, X12, ⟨Lc12, hQ12, lq12, yq12, zq12⟩, st12⟩ := X6.specialBack hx (y := (⟨"com/example/credence/credence/Credentials", "<init>", "(Ljava/lang/String;Ljava/lang/String;)V"⟩ : MethodName)) rfl hown4 (mvT hZ4 (w38 hw)) (mvT hZ4 (w39 hw)) (mvT hZ4 (w40 hw)) (by decide) (backOf (W := 1) (rm_cred l Z a0 hw [] b6 v_1 v_4 h6 n0 (Nat.le_trans Z0 sz11) A6 f8 f9 g_b6 hv_1 hv_4) hZ4 (w40 hw) (w37 hw) (by decide) (by decide)) (g := (mkF m 34 #[iv p0, iv p1, iv p2, iv p3, iv (p0 &&& (3 : Int32)), iv (p2 &&& (3 : Int32)), .val v_1, .val v_4, .unset, .unset, .unset, .unset] [v_4, v_1, (.ref b6), (.ref b6)])) rfl (by rw [hml]; rfl) (Steps.refl _) (a := b6) (argsL := [v_1, v_4]) (rest := [(.ref b6)]) (lenOf pd_12 rfl) rfl (by show 2 * 0 + _ ≤ _; exact Nat.le_of_eq rfl) (hb hby at_34) (fun _ _ => ⟨rfl, e6, (by decide : 13 + 0 ≤ _), (by decide : 26 + 0 ≤ _)⟩)
  dsimp only [Pt.U, Pt.locs, Pt.cells, Pt.slots] at X12 lq12 yq12 zq12 st12 hQ12
  subst lq12 yq12 zq12
  obtain ⟨h12, e12⟩ : ∃ z, T12.heap = z := ⟨_, rfl⟩
  rw [e12] at hQ12
  obtain ⟨rfl, N12q, K12, p12_0, p12_1, p12_2⟩ := hQ12
  have N12 := Fr.app N4 N12q
  have C13 : CHr Z consts_1 s.vm h0 T4.vm h12 := CHr.trans C7 (CHr.keep K12 (sfS (Safe.exa hZ4.alike A6 (by decide) (by decide)) sf0) C7.1)
  refine go_tr st12 ?_
  show Go _ _ _ _ (T12.setTop (mkF m 37 #[iv p0, iv p1, iv p2, iv p3, iv (p0 &&& (3 : Int32)), iv (p2 &&& (3 : Int32)), .val v_1, .val v_4, .unset, .unset, .unset, .unset] [(.ref b6)]))
  refine go_st (fun t k => XS.astore X12.here hx rfl (hb hby at_37) rfl rfl (l' := #[iv p0, iv p1, iv p2, iv p3, iv (p0 &&& (3 : Int32)), iv (p2 &&& (3 : Int32)), .val v_1, .val v_4, rv b6, .unset, .unset, .unset]) rfl k) ?_
  show Go _ _ _ _ (T12.setTop (mkF m 39 #[iv p0, iv p1, iv p2, iv p3, iv (p0 &&& (3 : Int32)), iv (p2 &&& (3 : Int32)), .val v_1, .val v_4, rv b6, .unset, .unset, .unset] []))
  refine go_st (fun t k => XS.iload X12.here hx rfl (hb hby at_39) rfl k) ?_
  show Go _ _ _ _ (T12.setTop (mkF m 41 #[iv p0, iv p1, iv p2, iv p3, iv (p0 &&& (3 : Int32)), iv (p2 &&& (3 : Int32)), .val v_1, .val v_4, rv b6, .unset, .unset, .unset] [(.int (p0 &&& (3 : Int32)))]))
  refine go_st (fun t k => XS.iconst X12.here hx rfl (hb hby at_41) k) ?_
  show Go _ _ _ _ (T12.setTop (mkF m 42 #[iv p0, iv p1, iv p2, iv p3, iv (p0 &&& (3 : Int32)), iv (p2 &&& (3 : Int32)), .val v_1, .val v_4, rv b6, .unset, .unset, .unset] [(.int 2), (.int (p0 &&& (3 : Int32)))]))
  by_cases hc14 : (p0 &&& (3 : Int32)) < (2 : Int32)
  · skip
    refine go_st (fun t k => XS.icmpNo X12.here hx rfl (hb hby at_42) rfl (tlt (hc14 : (p0 &&& (3 : Int32)) < (2 : Int32))).2.1 k) ?_
    show Go _ _ _ _ (T12.setTop (mkF m 45 #[iv p0, iv p1, iv p2, iv p3, iv (p0 &&& (3 : Int32)), iv (p2 &&& (3 : Int32)), .val v_1, .val v_4, rv b6, .unset, .unset, .unset] []))
    refine go_st (fun t k => XS.iconst X12.here hx rfl (hb hby at_45) k) ?_
    show Go _ _ _ _ (T12.setTop (mkF m 46 #[iv p0, iv p1, iv p2, iv p3, iv (p0 &&& (3 : Int32)), iv (p2 &&& (3 : Int32)), .val v_1, .val v_4, rv b6, .unset, .unset, .unset] [(.int 1)]))
    refine go_st (fun t k => XS.goto X12.here hx rfl (pc0 := 46) (pc' := 50) rfl (hb hby at_46) (by decide) (by decide) k) ?_
    show Go _ _ _ _ (T12.setTop (mkF m 50 #[iv p0, iv p1, iv p2, iv p3, iv (p0 &&& (3 : Int32)), iv (p2 &&& (3 : Int32)), .val v_1, .val v_4, rv b6, .unset, .unset, .unset] [(.int 1)]))
    refine go_st (fun t k => XS.istore X12.here hx rfl (hb hby at_50) rfl (l' := #[iv p0, iv p1, iv p2, iv p3, iv (p0 &&& (3 : Int32)), iv (p2 &&& (3 : Int32)), .val v_1, .val v_4, rv b6, iv 1, .unset, .unset]) rfl k) ?_
    show Go _ _ _ _ (T12.setTop (mkF m 52 #[iv p0, iv p1, iv p2, iv p3, iv (p0 &&& (3 : Int32)), iv (p2 &&& (3 : Int32)), .val v_1, .val v_4, rv b6, iv 1, .unset, .unset] []))
    refine go_st (fun t k => XS.iload X12.here hx rfl (hb hby at_52) rfl k) ?_
    show Go _ _ _ _ (T12.setTop (mkF m 54 #[iv p0, iv p1, iv p2, iv p3, iv (p0 &&& (3 : Int32)), iv (p2 &&& (3 : Int32)), .val v_1, .val v_4, rv b6, iv 1, .unset, .unset] [(.int (p2 &&& (3 : Int32)))]))
    refine go_st (fun t k => XS.iconst X12.here hx rfl (hb hby at_54) k) ?_
    show Go _ _ _ _ (T12.setTop (mkF m 55 #[iv p0, iv p1, iv p2, iv p3, iv (p0 &&& (3 : Int32)), iv (p2 &&& (3 : Int32)), .val v_1, .val v_4, rv b6, iv 1, .unset, .unset] [(.int 2), (.int (p2 &&& (3 : Int32)))]))
    by_cases hc15 : (p2 &&& (3 : Int32)) < (2 : Int32)
    · skip
      refine go_st (fun t k => XS.icmpNo X12.here hx rfl (hb hby at_55) rfl (tlt (hc15 : (p2 &&& (3 : Int32)) < (2 : Int32))).2.1 k) ?_
      show Go _ _ _ _ (T12.setTop (mkF m 58 #[iv p0, iv p1, iv p2, iv p3, iv (p0 &&& (3 : Int32)), iv (p2 &&& (3 : Int32)), .val v_1, .val v_4, rv b6, iv 1, .unset, .unset] []))
      refine go_st (fun t k => XS.iconst X12.here hx rfl (hb hby at_58) k) ?_
      show Go _ _ _ _ (T12.setTop (mkF m 59 #[iv p0, iv p1, iv p2, iv p3, iv (p0 &&& (3 : Int32)), iv (p2 &&& (3 : Int32)), .val v_1, .val v_4, rv b6, iv 1, .unset, .unset] [(.int 1)]))
      refine go_st (fun t k => XS.goto X12.here hx rfl (pc0 := 59) (pc' := 63) rfl (hb hby at_59) (by decide) (by decide) k) ?_
      show Go _ _ _ _ (T12.setTop (mkF m 63 #[iv p0, iv p1, iv p2, iv p3, iv (p0 &&& (3 : Int32)), iv (p2 &&& (3 : Int32)), .val v_1, .val v_4, rv b6, iv 1, .unset, .unset] [(.int 1)]))
      refine go_st (fun t k => XS.istore X12.here hx rfl (hb hby at_63) rfl (l' := #[iv p0, iv p1, iv p2, iv p3, iv (p0 &&& (3 : Int32)), iv (p2 &&& (3 : Int32)), .val v_1, .val v_4, rv b6, iv 1, iv 1, .unset]) rfl k) ?_
      show Go _ _ _ _ (T12.setTop (mkF m 65 #[iv p0, iv p1, iv p2, iv p3, iv (p0 &&& (3 : Int32)), iv (p2 &&& (3 : Int32)), .val v_1, .val v_4, rv b6, iv 1, iv 1, .unset] []))
      refine go_st (fun t k => XS.iload X12.here hx rfl (hb hby at_65) rfl k) ?_
      show Go _ _ _ _ (T12.setTop (mkF m 67 #[iv p0, iv p1, iv p2, iv p3, iv (p0 &&& (3 : Int32)), iv (p2 &&& (3 : Int32)), .val v_1, .val v_4, rv b6, iv 1, iv 1, .unset] [(.int 1)]))
      refine go_st (fun t k => XS.ifNo X12.here hx rfl (hb hby at_67) rfl ((if0 _ _).trans (feq ((by decide) : ¬ ((1 : Int32) = (0 : Int32)))).1) k) ?_
      show Go _ _ _ _ (T12.setTop (mkF m 70 #[iv p0, iv p1, iv p2, iv p3, iv (p0 &&& (3 : Int32)), iv (p2 &&& (3 : Int32)), .val v_1, .val v_4, rv b6, iv 1, iv 1, .unset] []))
      refine go_st (fun t k => XS.iload X12.here hx rfl (hb hby at_70) rfl k) ?_
      show Go _ _ _ _ (T12.setTop (mkF m 72 #[iv p0, iv p1, iv p2, iv p3, iv (p0 &&& (3 : Int32)), iv (p2 &&& (3 : Int32)), .val v_1, .val v_4, rv b6, iv 1, iv 1, .unset] [(.int 1)]))
      refine go_st (fun t k => XS.ifNo X12.here hx rfl (hb hby at_72) rfl ((if0 _ _).trans (feq ((by decide) : ¬ ((1 : Int32) = (0 : Int32)))).1) k) ?_
      show Go _ _ _ _ (T12.setTop (mkF m 75 #[iv p0, iv p1, iv p2, iv p3, iv (p0 &&& (3 : Int32)), iv (p2 &&& (3 : Int32)), .val v_1, .val v_4, rv b6, iv 1, iv 1, .unset] []))
      refine go_st (fun t k => XS.iconst X12.here hx rfl (hb hby at_75) k) ?_
      show Go _ _ _ _ (T12.setTop (mkF m 76 #[iv p0, iv p1, iv p2, iv p3, iv (p0 &&& (3 : Int32)), iv (p2 &&& (3 : Int32)), .val v_1, .val v_4, rv b6, iv 1, iv 1, .unset] [(.int 1)]))
      refine go_st (fun t k => XS.goto X12.here hx rfl (pc0 := 76) (pc' := 80) rfl (hb hby at_76) (by decide) (by decide) k) ?_
      show Go _ _ _ _ (T12.setTop (mkF m 80 #[iv p0, iv p1, iv p2, iv p3, iv (p0 &&& (3 : Int32)), iv (p2 &&& (3 : Int32)), .val v_1, .val v_4, rv b6, iv 1, iv 1, .unset] [(.int 1)]))
      refine go_st (fun t k => XS.istore X12.here hx rfl (hb hby at_80) rfl (l' := #[iv p0, iv p1, iv p2, iv p3, iv (p0 &&& (3 : Int32)), iv (p2 &&& (3 : Int32)), .val v_1, .val v_4, rv b6, iv 1, iv 1, iv 1]) rfl k) ?_
      show Go _ _ _ _ (T12.setTop (mkF m 82 #[iv p0, iv p1, iv p2, iv p3, iv (p0 &&& (3 : Int32)), iv (p2 &&& (3 : Int32)), .val v_1, .val v_4, rv b6, iv 1, iv 1, iv 1] []))
      refine go_st (fun t k => XS.aload X12.here hx rfl (hb hby at_82) rfl rfl k) ?_
      show Go _ _ _ _ (T12.setTop (mkF m 84 #[iv p0, iv p1, iv p2, iv p3, iv (p0 &&& (3 : Int32)), iv (p2 &&& (3 : Int32)), .val v_1, .val v_4, rv b6, iv 1, iv 1, iv 1] [(.ref b6)]))
      have xe16 : Ext h1 h4 := (ext_keep (ext_rfl h1) K4 all0)
      have xe17 : Ext h1 h6 := (ext_tr xe16 E6)
      have xe18 : Ext h1 h12 := (ext_keep xe17 K12 (allS (Nat.le_trans K4.1 (Nat.le_of_eq gq6.symm)) all0))
      have f19 : OStr Z h12 v_1 ne_1 := (p1_2.ext xe18)
      have xe20 : Ext h4 h6 := (ext_tr (ext_rfl h4) E6)
      have xe21 : Ext h4 h12 := (ext_keep xe20 K12 (allS (Nat.le_of_eq gq6.symm) all0))
      have f22 : OStr Z h12 v_4 ne_4 := (p4_2.ext xe21)
      have sz23 : h0.size ≤ h12.size := (Nat.le_trans sz11 K12.1)
      obtain ⟨cq24, kq24, q24a, q24b, q24c⟩ := isOf hZ4 e12 p12_0
      obtain ⟨_, _, ⟨T24, L24, kk24, nn24⟩, -, X24, ⟨Lc24, hQ24, lq24, yq24, zq24⟩, st24⟩ := X12.virtualBack hx (y := (⟨"com/example/credence/credence/Credentials", "blank", "()Z"⟩ : MethodName)) (z := (⟨"com/example/credence/credence/Credentials", "blank", "()Z"⟩ : MethodName)) hown4 (mvT hZ4 (w51 hw)) (mvT hZ4 (w52 hw)) (notFace_of_selects (args := #[]) (mvT hZ4 (w54 hw))) (mvT hZ4 (w54 hw)) (mvT hZ4 (w53 hw)) (by decide) (backOf (W := 0) (rm_blank l Z a0 hw [] b6 v_1 v_4 ne_1 ne_4 h12 n0 (Nat.le_trans Z0 sz23) p12_1 p12_2 hv_1 hv_4 f19 f22) hZ4 (w55 hw) (w37 hw) (by decide) (by decide)) q24a q24c (g := (mkF m 84 #[iv p0, iv p1, iv p2, iv p3, iv (p0 &&& (3 : Int32)), iv (p2 &&& (3 : Int32)), .val v_1, .val v_4, rv b6, iv 1, iv 1, iv 1] [(.ref b6)])) rfl (by rw [hml]; rfl) (Steps.refl _) (argsL := []) (rest := []) (lenOf pd_9 rfl) rfl (by show 2 * 0 + _ ≤ _; exact Nat.le_of_eq rfl) (hb hby at_84) (fun _ _ => ⟨rfl, e12, (by decide : 13 + 0 ≤ _), (by decide : 26 + 0 ≤ _)⟩)
      dsimp only [Pt.U, Pt.locs, Pt.cells, Pt.slots] at X24 lq24 yq24 zq24 st24 hQ24
      subst lq24 yq24 zq24
      obtain ⟨h24, e24⟩ : ∃ z, T24.heap = z := ⟨_, rfl⟩
      rw [e24] at hQ24
      obtain ⟨r_24, rfl, N24q, he24, hr_24⟩ := hQ24
      have N24 := Fr.app N12 N24q
      rw [he24] at e24
      refine go_tr st24 ?_
      show Go _ _ _ _ (T24.setTop (mkF m 87 #[iv p0, iv p1, iv p2, iv p3, iv (p0 &&& (3 : Int32)), iv (p2 &&& (3 : Int32)), .val v_1, .val v_4, rv b6, iv 1, iv 1, iv 1] [(.int r_24)]))
      refine go_st (fun t k => XS.iload X24.here hx rfl (hb hby at_87) rfl k) ?_
      show Go _ _ _ _ (T24.setTop (mkF m 89 #[iv p0, iv p1, iv p2, iv p3, iv (p0 &&& (3 : Int32)), iv (p2 &&& (3 : Int32)), .val v_1, .val v_4, rv b6, iv 1, iv 1, iv 1] [(.int 1), (.int r_24)]))
      refine go_st (fun t k => XS.icmpNo X24.here hx rfl (hb hby at_89) rfl (teq ((by rw [hr_24, hne_1, hne_4]; simp [hc14, hc15]) : r_24 = (1 : Int32))).2 k) ?_
      show Go _ _ _ _ (T24.setTop (mkF m 92 #[iv p0, iv p1, iv p2, iv p3, iv (p0 &&& (3 : Int32)), iv (p2 &&& (3 : Int32)), .val v_1, .val v_4, rv b6, iv 1, iv 1, iv 1] []))
      refine go_st (fun t k => XS.iconst X24.here hx rfl (hb hby at_92) k) ?_
      show Go _ _ _ _ (T24.setTop (mkF m 93 #[iv p0, iv p1, iv p2, iv p3, iv (p0 &&& (3 : Int32)), iv (p2 &&& (3 : Int32)), .val v_1, .val v_4, rv b6, iv 1, iv 1, iv 1] [(.int 1)]))
      refine go_st (fun t k => XS.goto X24.here hx rfl (pc0 := 93) (pc' := 97) rfl (hb hby at_93) (by decide) (by decide) k) ?_
      show Go _ _ _ _ (T24.setTop (mkF m 97 #[iv p0, iv p1, iv p2, iv p3, iv (p0 &&& (3 : Int32)), iv (p2 &&& (3 : Int32)), .val v_1, .val v_4, rv b6, iv 1, iv 1, iv 1] [(.int 1)]))
      have ke25 : Keep h0 h1 [] := (Keep.trans (Keep.refl h0 []) K1 all0)
      have ke26 : Keep h0 h4 [] := (Keep.trans ke25 K4 all0)
      have ke27 : Keep h0 h6 [] := (Keep.ext ke26 E6)
      have ke28 : Keep h0 h12 [] := (Keep.trans ke27 K12 (allS (Or.inr (Nat.le_trans sz10 (Nat.le_of_eq gq6.symm))) all0))
      have sz29 : h4.size ≤ h12.size := (Nat.le_trans E6.1 K12.1)
      obtain ⟨fs, hr, hrun, hended, hR⟩ := X24.leaveW hS4 (by rw [e24]; exact (Nat.le_trans (Nat.le_refl _) sz29)) (v := some (.int 1)) (fun h => by rw [Bd.returns] at h; cases h)
      refine ⟨_, _, ?_, hrun, hended, _, _, rfl, ?_, ?_, hR.1, hR.2.1, hR.2.2.1, hR.2.2.2.mono (by decide) (by decide)⟩
      · exact retN X24 hx (t := .boolean) Bd.returns (by simp) (hb hby at_97) hr
      · show Q_law _ _ _ _ _ _ _ _ _ T24.heap _
        rw [e24]
        exact ⟨rfl, N24, ke28⟩
      · show CHr Z consts_1 s.vm s.heap T24.vm T24.heap
        rw [hh, e24]
        exact CHr.trans C13 (CHv.at X24 hZ4 (hEL hw) C13.1)
    · skip
      refine go_st (fun t k => XS.icmpYes X12.here hx rfl (pc0 := 55) (pc' := 62) rfl (hb hby at_55) rfl (flt (hc15 : ¬ ((p2 &&& (3 : Int32)) < (2 : Int32)))).2.1 (by decide) (by decide) k) ?_
      show Go _ _ _ _ (T12.setTop (mkF m 62 #[iv p0, iv p1, iv p2, iv p3, iv (p0 &&& (3 : Int32)), iv (p2 &&& (3 : Int32)), .val v_1, .val v_4, rv b6, iv 1, .unset, .unset] []))
      refine go_st (fun t k => XS.iconst X12.here hx rfl (hb hby at_62) k) ?_
      show Go _ _ _ _ (T12.setTop (mkF m 63 #[iv p0, iv p1, iv p2, iv p3, iv (p0 &&& (3 : Int32)), iv (p2 &&& (3 : Int32)), .val v_1, .val v_4, rv b6, iv 1, .unset, .unset] [(.int 0)]))
      refine go_st (fun t k => XS.istore X12.here hx rfl (hb hby at_63) rfl (l' := #[iv p0, iv p1, iv p2, iv p3, iv (p0 &&& (3 : Int32)), iv (p2 &&& (3 : Int32)), .val v_1, .val v_4, rv b6, iv 1, iv 0, .unset]) rfl k) ?_
      show Go _ _ _ _ (T12.setTop (mkF m 65 #[iv p0, iv p1, iv p2, iv p3, iv (p0 &&& (3 : Int32)), iv (p2 &&& (3 : Int32)), .val v_1, .val v_4, rv b6, iv 1, iv 0, .unset] []))
      refine go_st (fun t k => XS.iload X12.here hx rfl (hb hby at_65) rfl k) ?_
      show Go _ _ _ _ (T12.setTop (mkF m 67 #[iv p0, iv p1, iv p2, iv p3, iv (p0 &&& (3 : Int32)), iv (p2 &&& (3 : Int32)), .val v_1, .val v_4, rv b6, iv 1, iv 0, .unset] [(.int 1)]))
      refine go_st (fun t k => XS.ifNo X12.here hx rfl (hb hby at_67) rfl ((if0 _ _).trans (feq ((by decide) : ¬ ((1 : Int32) = (0 : Int32)))).1) k) ?_
      show Go _ _ _ _ (T12.setTop (mkF m 70 #[iv p0, iv p1, iv p2, iv p3, iv (p0 &&& (3 : Int32)), iv (p2 &&& (3 : Int32)), .val v_1, .val v_4, rv b6, iv 1, iv 0, .unset] []))
      refine go_st (fun t k => XS.iload X12.here hx rfl (hb hby at_70) rfl k) ?_
      show Go _ _ _ _ (T12.setTop (mkF m 72 #[iv p0, iv p1, iv p2, iv p3, iv (p0 &&& (3 : Int32)), iv (p2 &&& (3 : Int32)), .val v_1, .val v_4, rv b6, iv 1, iv 0, .unset] [(.int 0)]))
      refine go_st (fun t k => XS.ifYes X12.here hx rfl (pc0 := 72) (pc' := 79) rfl (hb hby at_72) rfl ((if0 _ _).trans (teq ((by decide) : (0 : Int32) = (0 : Int32))).1) (by decide) (by decide) k) ?_
      show Go _ _ _ _ (T12.setTop (mkF m 79 #[iv p0, iv p1, iv p2, iv p3, iv (p0 &&& (3 : Int32)), iv (p2 &&& (3 : Int32)), .val v_1, .val v_4, rv b6, iv 1, iv 0, .unset] []))
      refine go_st (fun t k => XS.iconst X12.here hx rfl (hb hby at_79) k) ?_
      show Go _ _ _ _ (T12.setTop (mkF m 80 #[iv p0, iv p1, iv p2, iv p3, iv (p0 &&& (3 : Int32)), iv (p2 &&& (3 : Int32)), .val v_1, .val v_4, rv b6, iv 1, iv 0, .unset] [(.int 0)]))
      refine go_st (fun t k => XS.istore X12.here hx rfl (hb hby at_80) rfl (l' := #[iv p0, iv p1, iv p2, iv p3, iv (p0 &&& (3 : Int32)), iv (p2 &&& (3 : Int32)), .val v_1, .val v_4, rv b6, iv 1, iv 0, iv 0]) rfl k) ?_
      show Go _ _ _ _ (T12.setTop (mkF m 82 #[iv p0, iv p1, iv p2, iv p3, iv (p0 &&& (3 : Int32)), iv (p2 &&& (3 : Int32)), .val v_1, .val v_4, rv b6, iv 1, iv 0, iv 0] []))
      refine go_st (fun t k => XS.aload X12.here hx rfl (hb hby at_82) rfl rfl k) ?_
      show Go _ _ _ _ (T12.setTop (mkF m 84 #[iv p0, iv p1, iv p2, iv p3, iv (p0 &&& (3 : Int32)), iv (p2 &&& (3 : Int32)), .val v_1, .val v_4, rv b6, iv 1, iv 0, iv 0] [(.ref b6)]))
      have xe30 : Ext h1 h4 := (ext_keep (ext_rfl h1) K4 all0)
      have xe31 : Ext h1 h6 := (ext_tr xe30 E6)
      have xe32 : Ext h1 h12 := (ext_keep xe31 K12 (allS (Nat.le_trans K4.1 (Nat.le_of_eq gq6.symm)) all0))
      have f33 : OStr Z h12 v_1 ne_1 := (p1_2.ext xe32)
      have xe34 : Ext h4 h6 := (ext_tr (ext_rfl h4) E6)
      have xe35 : Ext h4 h12 := (ext_keep xe34 K12 (allS (Nat.le_of_eq gq6.symm) all0))
      have f36 : OStr Z h12 v_4 ne_4 := (p4_2.ext xe35)
      have sz37 : h0.size ≤ h12.size := (Nat.le_trans sz11 K12.1)
      obtain ⟨cq38, kq38, q38a, q38b, q38c⟩ := isOf hZ4 e12 p12_0
      obtain ⟨_, _, ⟨T38, L38, kk38, nn38⟩, -, X38, ⟨Lc38, hQ38, lq38, yq38, zq38⟩, st38⟩ := X12.virtualBack hx (y := (⟨"com/example/credence/credence/Credentials", "blank", "()Z"⟩ : MethodName)) (z := (⟨"com/example/credence/credence/Credentials", "blank", "()Z"⟩ : MethodName)) hown4 (mvT hZ4 (w51 hw)) (mvT hZ4 (w52 hw)) (notFace_of_selects (args := #[]) (mvT hZ4 (w54 hw))) (mvT hZ4 (w54 hw)) (mvT hZ4 (w53 hw)) (by decide) (backOf (W := 0) (rm_blank l Z a0 hw [] b6 v_1 v_4 ne_1 ne_4 h12 n0 (Nat.le_trans Z0 sz37) p12_1 p12_2 hv_1 hv_4 f33 f36) hZ4 (w55 hw) (w37 hw) (by decide) (by decide)) q38a q38c (g := (mkF m 84 #[iv p0, iv p1, iv p2, iv p3, iv (p0 &&& (3 : Int32)), iv (p2 &&& (3 : Int32)), .val v_1, .val v_4, rv b6, iv 1, iv 0, iv 0] [(.ref b6)])) rfl (by rw [hml]; rfl) (Steps.refl _) (argsL := []) (rest := []) (lenOf pd_9 rfl) rfl (by show 2 * 0 + _ ≤ _; exact Nat.le_of_eq rfl) (hb hby at_84) (fun _ _ => ⟨rfl, e12, (by decide : 13 + 0 ≤ _), (by decide : 26 + 0 ≤ _)⟩)
      dsimp only [Pt.U, Pt.locs, Pt.cells, Pt.slots] at X38 lq38 yq38 zq38 st38 hQ38
      subst lq38 yq38 zq38
      obtain ⟨h38, e38⟩ : ∃ z, T38.heap = z := ⟨_, rfl⟩
      rw [e38] at hQ38
      obtain ⟨r_38, rfl, N38q, he38, hr_38⟩ := hQ38
      have N38 := Fr.app N12 N38q
      rw [he38] at e38
      refine go_tr st38 ?_
      show Go _ _ _ _ (T38.setTop (mkF m 87 #[iv p0, iv p1, iv p2, iv p3, iv (p0 &&& (3 : Int32)), iv (p2 &&& (3 : Int32)), .val v_1, .val v_4, rv b6, iv 1, iv 0, iv 0] [(.int r_38)]))
      refine go_st (fun t k => XS.iload X38.here hx rfl (hb hby at_87) rfl k) ?_
      show Go _ _ _ _ (T38.setTop (mkF m 89 #[iv p0, iv p1, iv p2, iv p3, iv (p0 &&& (3 : Int32)), iv (p2 &&& (3 : Int32)), .val v_1, .val v_4, rv b6, iv 1, iv 0, iv 0] [(.int 0), (.int r_38)]))
      refine go_st (fun t k => XS.icmpNo X38.here hx rfl (hb hby at_89) rfl (teq ((by rw [hr_38, hne_1, hne_4]; simp [hc14, hc15]) : r_38 = (0 : Int32))).2 k) ?_
      show Go _ _ _ _ (T38.setTop (mkF m 92 #[iv p0, iv p1, iv p2, iv p3, iv (p0 &&& (3 : Int32)), iv (p2 &&& (3 : Int32)), .val v_1, .val v_4, rv b6, iv 1, iv 0, iv 0] []))
      refine go_st (fun t k => XS.iconst X38.here hx rfl (hb hby at_92) k) ?_
      show Go _ _ _ _ (T38.setTop (mkF m 93 #[iv p0, iv p1, iv p2, iv p3, iv (p0 &&& (3 : Int32)), iv (p2 &&& (3 : Int32)), .val v_1, .val v_4, rv b6, iv 1, iv 0, iv 0] [(.int 1)]))
      refine go_st (fun t k => XS.goto X38.here hx rfl (pc0 := 93) (pc' := 97) rfl (hb hby at_93) (by decide) (by decide) k) ?_
      show Go _ _ _ _ (T38.setTop (mkF m 97 #[iv p0, iv p1, iv p2, iv p3, iv (p0 &&& (3 : Int32)), iv (p2 &&& (3 : Int32)), .val v_1, .val v_4, rv b6, iv 1, iv 0, iv 0] [(.int 1)]))
      have ke39 : Keep h0 h1 [] := (Keep.trans (Keep.refl h0 []) K1 all0)
      have ke40 : Keep h0 h4 [] := (Keep.trans ke39 K4 all0)
      have ke41 : Keep h0 h6 [] := (Keep.ext ke40 E6)
      have ke42 : Keep h0 h12 [] := (Keep.trans ke41 K12 (allS (Or.inr (Nat.le_trans sz10 (Nat.le_of_eq gq6.symm))) all0))
      have sz43 : h4.size ≤ h12.size := (Nat.le_trans E6.1 K12.1)
      obtain ⟨fs, hr, hrun, hended, hR⟩ := X38.leaveW hS4 (by rw [e38]; exact (Nat.le_trans (Nat.le_refl _) sz43)) (v := some (.int 1)) (fun h => by rw [Bd.returns] at h; cases h)
      refine ⟨_, _, ?_, hrun, hended, _, _, rfl, ?_, ?_, hR.1, hR.2.1, hR.2.2.1, hR.2.2.2.mono (by decide) (by decide)⟩
      · exact retN X38 hx (t := .boolean) Bd.returns (by simp) (hb hby at_97) hr
      · show Q_law _ _ _ _ _ _ _ _ _ T38.heap _
        rw [e38]
        exact ⟨rfl, N38, ke42⟩
      · show CHr Z consts_1 s.vm s.heap T38.vm T38.heap
        rw [hh, e38]
        exact CHr.trans C13 (CHv.at X38 hZ4 (hEL hw) C13.1)
  · skip
    refine go_st (fun t k => XS.icmpYes X12.here hx rfl (pc0 := 42) (pc' := 49) rfl (hb hby at_42) rfl (flt (hc14 : ¬ ((p0 &&& (3 : Int32)) < (2 : Int32)))).2.1 (by decide) (by decide) k) ?_
    show Go _ _ _ _ (T12.setTop (mkF m 49 #[iv p0, iv p1, iv p2, iv p3, iv (p0 &&& (3 : Int32)), iv (p2 &&& (3 : Int32)), .val v_1, .val v_4, rv b6, .unset, .unset, .unset] []))
    refine go_st (fun t k => XS.iconst X12.here hx rfl (hb hby at_49) k) ?_
    show Go _ _ _ _ (T12.setTop (mkF m 50 #[iv p0, iv p1, iv p2, iv p3, iv (p0 &&& (3 : Int32)), iv (p2 &&& (3 : Int32)), .val v_1, .val v_4, rv b6, .unset, .unset, .unset] [(.int 0)]))
    refine go_st (fun t k => XS.istore X12.here hx rfl (hb hby at_50) rfl (l' := #[iv p0, iv p1, iv p2, iv p3, iv (p0 &&& (3 : Int32)), iv (p2 &&& (3 : Int32)), .val v_1, .val v_4, rv b6, iv 0, .unset, .unset]) rfl k) ?_
    show Go _ _ _ _ (T12.setTop (mkF m 52 #[iv p0, iv p1, iv p2, iv p3, iv (p0 &&& (3 : Int32)), iv (p2 &&& (3 : Int32)), .val v_1, .val v_4, rv b6, iv 0, .unset, .unset] []))
    refine go_st (fun t k => XS.iload X12.here hx rfl (hb hby at_52) rfl k) ?_
    show Go _ _ _ _ (T12.setTop (mkF m 54 #[iv p0, iv p1, iv p2, iv p3, iv (p0 &&& (3 : Int32)), iv (p2 &&& (3 : Int32)), .val v_1, .val v_4, rv b6, iv 0, .unset, .unset] [(.int (p2 &&& (3 : Int32)))]))
    refine go_st (fun t k => XS.iconst X12.here hx rfl (hb hby at_54) k) ?_
    show Go _ _ _ _ (T12.setTop (mkF m 55 #[iv p0, iv p1, iv p2, iv p3, iv (p0 &&& (3 : Int32)), iv (p2 &&& (3 : Int32)), .val v_1, .val v_4, rv b6, iv 0, .unset, .unset] [(.int 2), (.int (p2 &&& (3 : Int32)))]))
    by_cases hc44 : (p2 &&& (3 : Int32)) < (2 : Int32)
    · skip
      refine go_st (fun t k => XS.icmpNo X12.here hx rfl (hb hby at_55) rfl (tlt (hc44 : (p2 &&& (3 : Int32)) < (2 : Int32))).2.1 k) ?_
      show Go _ _ _ _ (T12.setTop (mkF m 58 #[iv p0, iv p1, iv p2, iv p3, iv (p0 &&& (3 : Int32)), iv (p2 &&& (3 : Int32)), .val v_1, .val v_4, rv b6, iv 0, .unset, .unset] []))
      refine go_st (fun t k => XS.iconst X12.here hx rfl (hb hby at_58) k) ?_
      show Go _ _ _ _ (T12.setTop (mkF m 59 #[iv p0, iv p1, iv p2, iv p3, iv (p0 &&& (3 : Int32)), iv (p2 &&& (3 : Int32)), .val v_1, .val v_4, rv b6, iv 0, .unset, .unset] [(.int 1)]))
      refine go_st (fun t k => XS.goto X12.here hx rfl (pc0 := 59) (pc' := 63) rfl (hb hby at_59) (by decide) (by decide) k) ?_
      show Go _ _ _ _ (T12.setTop (mkF m 63 #[iv p0, iv p1, iv p2, iv p3, iv (p0 &&& (3 : Int32)), iv (p2 &&& (3 : Int32)), .val v_1, .val v_4, rv b6, iv 0, .unset, .unset] [(.int 1)]))
      refine go_st (fun t k => XS.istore X12.here hx rfl (hb hby at_63) rfl (l' := #[iv p0, iv p1, iv p2, iv p3, iv (p0 &&& (3 : Int32)), iv (p2 &&& (3 : Int32)), .val v_1, .val v_4, rv b6, iv 0, iv 1, .unset]) rfl k) ?_
      show Go _ _ _ _ (T12.setTop (mkF m 65 #[iv p0, iv p1, iv p2, iv p3, iv (p0 &&& (3 : Int32)), iv (p2 &&& (3 : Int32)), .val v_1, .val v_4, rv b6, iv 0, iv 1, .unset] []))
      refine go_st (fun t k => XS.iload X12.here hx rfl (hb hby at_65) rfl k) ?_
      show Go _ _ _ _ (T12.setTop (mkF m 67 #[iv p0, iv p1, iv p2, iv p3, iv (p0 &&& (3 : Int32)), iv (p2 &&& (3 : Int32)), .val v_1, .val v_4, rv b6, iv 0, iv 1, .unset] [(.int 0)]))
      refine go_st (fun t k => XS.ifYes X12.here hx rfl (pc0 := 67) (pc' := 79) rfl (hb hby at_67) rfl ((if0 _ _).trans (teq ((by decide) : (0 : Int32) = (0 : Int32))).1) (by decide) (by decide) k) ?_
      show Go _ _ _ _ (T12.setTop (mkF m 79 #[iv p0, iv p1, iv p2, iv p3, iv (p0 &&& (3 : Int32)), iv (p2 &&& (3 : Int32)), .val v_1, .val v_4, rv b6, iv 0, iv 1, .unset] []))
      refine go_st (fun t k => XS.iconst X12.here hx rfl (hb hby at_79) k) ?_
      show Go _ _ _ _ (T12.setTop (mkF m 80 #[iv p0, iv p1, iv p2, iv p3, iv (p0 &&& (3 : Int32)), iv (p2 &&& (3 : Int32)), .val v_1, .val v_4, rv b6, iv 0, iv 1, .unset] [(.int 0)]))
      refine go_st (fun t k => XS.istore X12.here hx rfl (hb hby at_80) rfl (l' := #[iv p0, iv p1, iv p2, iv p3, iv (p0 &&& (3 : Int32)), iv (p2 &&& (3 : Int32)), .val v_1, .val v_4, rv b6, iv 0, iv 1, iv 0]) rfl k) ?_
      show Go _ _ _ _ (T12.setTop (mkF m 82 #[iv p0, iv p1, iv p2, iv p3, iv (p0 &&& (3 : Int32)), iv (p2 &&& (3 : Int32)), .val v_1, .val v_4, rv b6, iv 0, iv 1, iv 0] []))
      refine go_st (fun t k => XS.aload X12.here hx rfl (hb hby at_82) rfl rfl k) ?_
      show Go _ _ _ _ (T12.setTop (mkF m 84 #[iv p0, iv p1, iv p2, iv p3, iv (p0 &&& (3 : Int32)), iv (p2 &&& (3 : Int32)), .val v_1, .val v_4, rv b6, iv 0, iv 1, iv 0] [(.ref b6)]))
      have xe45 : Ext h1 h4 := (ext_keep (ext_rfl h1) K4 all0)
      have xe46 : Ext h1 h6 := (ext_tr xe45 E6)
      have xe47 : Ext h1 h12 := (ext_keep xe46 K12 (allS (Nat.le_trans K4.1 (Nat.le_of_eq gq6.symm)) all0))
      have f48 : OStr Z h12 v_1 ne_1 := (p1_2.ext xe47)
      have xe49 : Ext h4 h6 := (ext_tr (ext_rfl h4) E6)
      have xe50 : Ext h4 h12 := (ext_keep xe49 K12 (allS (Nat.le_of_eq gq6.symm) all0))
      have f51 : OStr Z h12 v_4 ne_4 := (p4_2.ext xe50)
      have sz52 : h0.size ≤ h12.size := (Nat.le_trans sz11 K12.1)
      obtain ⟨cq53, kq53, q53a, q53b, q53c⟩ := isOf hZ4 e12 p12_0
      obtain ⟨_, _, ⟨T53, L53, kk53, nn53⟩, -, X53, ⟨Lc53, hQ53, lq53, yq53, zq53⟩, st53⟩ := X12.virtualBack hx (y := (⟨"com/example/credence/credence/Credentials", "blank", "()Z"⟩ : MethodName)) (z := (⟨"com/example/credence/credence/Credentials", "blank", "()Z"⟩ : MethodName)) hown4 (mvT hZ4 (w51 hw)) (mvT hZ4 (w52 hw)) (notFace_of_selects (args := #[]) (mvT hZ4 (w54 hw))) (mvT hZ4 (w54 hw)) (mvT hZ4 (w53 hw)) (by decide) (backOf (W := 0) (rm_blank l Z a0 hw [] b6 v_1 v_4 ne_1 ne_4 h12 n0 (Nat.le_trans Z0 sz52) p12_1 p12_2 hv_1 hv_4 f48 f51) hZ4 (w55 hw) (w37 hw) (by decide) (by decide)) q53a q53c (g := (mkF m 84 #[iv p0, iv p1, iv p2, iv p3, iv (p0 &&& (3 : Int32)), iv (p2 &&& (3 : Int32)), .val v_1, .val v_4, rv b6, iv 0, iv 1, iv 0] [(.ref b6)])) rfl (by rw [hml]; rfl) (Steps.refl _) (argsL := []) (rest := []) (lenOf pd_9 rfl) rfl (by show 2 * 0 + _ ≤ _; exact Nat.le_of_eq rfl) (hb hby at_84) (fun _ _ => ⟨rfl, e12, (by decide : 13 + 0 ≤ _), (by decide : 26 + 0 ≤ _)⟩)
      dsimp only [Pt.U, Pt.locs, Pt.cells, Pt.slots] at X53 lq53 yq53 zq53 st53 hQ53
      subst lq53 yq53 zq53
      obtain ⟨h53, e53⟩ : ∃ z, T53.heap = z := ⟨_, rfl⟩
      rw [e53] at hQ53
      obtain ⟨r_53, rfl, N53q, he53, hr_53⟩ := hQ53
      have N53 := Fr.app N12 N53q
      rw [he53] at e53
      refine go_tr st53 ?_
      show Go _ _ _ _ (T53.setTop (mkF m 87 #[iv p0, iv p1, iv p2, iv p3, iv (p0 &&& (3 : Int32)), iv (p2 &&& (3 : Int32)), .val v_1, .val v_4, rv b6, iv 0, iv 1, iv 0] [(.int r_53)]))
      refine go_st (fun t k => XS.iload X53.here hx rfl (hb hby at_87) rfl k) ?_
      show Go _ _ _ _ (T53.setTop (mkF m 89 #[iv p0, iv p1, iv p2, iv p3, iv (p0 &&& (3 : Int32)), iv (p2 &&& (3 : Int32)), .val v_1, .val v_4, rv b6, iv 0, iv 1, iv 0] [(.int 0), (.int r_53)]))
      refine go_st (fun t k => XS.icmpNo X53.here hx rfl (hb hby at_89) rfl (teq ((by rw [hr_53, hne_1, hne_4]; simp [hc14, hc44]) : r_53 = (0 : Int32))).2 k) ?_
      show Go _ _ _ _ (T53.setTop (mkF m 92 #[iv p0, iv p1, iv p2, iv p3, iv (p0 &&& (3 : Int32)), iv (p2 &&& (3 : Int32)), .val v_1, .val v_4, rv b6, iv 0, iv 1, iv 0] []))
      refine go_st (fun t k => XS.iconst X53.here hx rfl (hb hby at_92) k) ?_
      show Go _ _ _ _ (T53.setTop (mkF m 93 #[iv p0, iv p1, iv p2, iv p3, iv (p0 &&& (3 : Int32)), iv (p2 &&& (3 : Int32)), .val v_1, .val v_4, rv b6, iv 0, iv 1, iv 0] [(.int 1)]))
      refine go_st (fun t k => XS.goto X53.here hx rfl (pc0 := 93) (pc' := 97) rfl (hb hby at_93) (by decide) (by decide) k) ?_
      show Go _ _ _ _ (T53.setTop (mkF m 97 #[iv p0, iv p1, iv p2, iv p3, iv (p0 &&& (3 : Int32)), iv (p2 &&& (3 : Int32)), .val v_1, .val v_4, rv b6, iv 0, iv 1, iv 0] [(.int 1)]))
      have ke54 : Keep h0 h1 [] := (Keep.trans (Keep.refl h0 []) K1 all0)
      have ke55 : Keep h0 h4 [] := (Keep.trans ke54 K4 all0)
      have ke56 : Keep h0 h6 [] := (Keep.ext ke55 E6)
      have ke57 : Keep h0 h12 [] := (Keep.trans ke56 K12 (allS (Or.inr (Nat.le_trans sz10 (Nat.le_of_eq gq6.symm))) all0))
      have sz58 : h4.size ≤ h12.size := (Nat.le_trans E6.1 K12.1)
      obtain ⟨fs, hr, hrun, hended, hR⟩ := X53.leaveW hS4 (by rw [e53]; exact (Nat.le_trans (Nat.le_refl _) sz58)) (v := some (.int 1)) (fun h => by rw [Bd.returns] at h; cases h)
      refine ⟨_, _, ?_, hrun, hended, _, _, rfl, ?_, ?_, hR.1, hR.2.1, hR.2.2.1, hR.2.2.2.mono (by decide) (by decide)⟩
      · exact retN X53 hx (t := .boolean) Bd.returns (by simp) (hb hby at_97) hr
      · show Q_law _ _ _ _ _ _ _ _ _ T53.heap _
        rw [e53]
        exact ⟨rfl, N53, ke57⟩
      · show CHr Z consts_1 s.vm s.heap T53.vm T53.heap
        rw [hh, e53]
        exact CHr.trans C13 (CHv.at X53 hZ4 (hEL hw) C13.1)
    · skip
      refine go_st (fun t k => XS.icmpYes X12.here hx rfl (pc0 := 55) (pc' := 62) rfl (hb hby at_55) rfl (flt (hc44 : ¬ ((p2 &&& (3 : Int32)) < (2 : Int32)))).2.1 (by decide) (by decide) k) ?_
      show Go _ _ _ _ (T12.setTop (mkF m 62 #[iv p0, iv p1, iv p2, iv p3, iv (p0 &&& (3 : Int32)), iv (p2 &&& (3 : Int32)), .val v_1, .val v_4, rv b6, iv 0, .unset, .unset] []))
      refine go_st (fun t k => XS.iconst X12.here hx rfl (hb hby at_62) k) ?_
      show Go _ _ _ _ (T12.setTop (mkF m 63 #[iv p0, iv p1, iv p2, iv p3, iv (p0 &&& (3 : Int32)), iv (p2 &&& (3 : Int32)), .val v_1, .val v_4, rv b6, iv 0, .unset, .unset] [(.int 0)]))
      refine go_st (fun t k => XS.istore X12.here hx rfl (hb hby at_63) rfl (l' := #[iv p0, iv p1, iv p2, iv p3, iv (p0 &&& (3 : Int32)), iv (p2 &&& (3 : Int32)), .val v_1, .val v_4, rv b6, iv 0, iv 0, .unset]) rfl k) ?_
      show Go _ _ _ _ (T12.setTop (mkF m 65 #[iv p0, iv p1, iv p2, iv p3, iv (p0 &&& (3 : Int32)), iv (p2 &&& (3 : Int32)), .val v_1, .val v_4, rv b6, iv 0, iv 0, .unset] []))
      refine go_st (fun t k => XS.iload X12.here hx rfl (hb hby at_65) rfl k) ?_
      show Go _ _ _ _ (T12.setTop (mkF m 67 #[iv p0, iv p1, iv p2, iv p3, iv (p0 &&& (3 : Int32)), iv (p2 &&& (3 : Int32)), .val v_1, .val v_4, rv b6, iv 0, iv 0, .unset] [(.int 0)]))
      refine go_st (fun t k => XS.ifYes X12.here hx rfl (pc0 := 67) (pc' := 79) rfl (hb hby at_67) rfl ((if0 _ _).trans (teq ((by decide) : (0 : Int32) = (0 : Int32))).1) (by decide) (by decide) k) ?_
      show Go _ _ _ _ (T12.setTop (mkF m 79 #[iv p0, iv p1, iv p2, iv p3, iv (p0 &&& (3 : Int32)), iv (p2 &&& (3 : Int32)), .val v_1, .val v_4, rv b6, iv 0, iv 0, .unset] []))
      refine go_st (fun t k => XS.iconst X12.here hx rfl (hb hby at_79) k) ?_
      show Go _ _ _ _ (T12.setTop (mkF m 80 #[iv p0, iv p1, iv p2, iv p3, iv (p0 &&& (3 : Int32)), iv (p2 &&& (3 : Int32)), .val v_1, .val v_4, rv b6, iv 0, iv 0, .unset] [(.int 0)]))
      refine go_st (fun t k => XS.istore X12.here hx rfl (hb hby at_80) rfl (l' := #[iv p0, iv p1, iv p2, iv p3, iv (p0 &&& (3 : Int32)), iv (p2 &&& (3 : Int32)), .val v_1, .val v_4, rv b6, iv 0, iv 0, iv 0]) rfl k) ?_
      show Go _ _ _ _ (T12.setTop (mkF m 82 #[iv p0, iv p1, iv p2, iv p3, iv (p0 &&& (3 : Int32)), iv (p2 &&& (3 : Int32)), .val v_1, .val v_4, rv b6, iv 0, iv 0, iv 0] []))
      refine go_st (fun t k => XS.aload X12.here hx rfl (hb hby at_82) rfl rfl k) ?_
      show Go _ _ _ _ (T12.setTop (mkF m 84 #[iv p0, iv p1, iv p2, iv p3, iv (p0 &&& (3 : Int32)), iv (p2 &&& (3 : Int32)), .val v_1, .val v_4, rv b6, iv 0, iv 0, iv 0] [(.ref b6)]))
      have xe59 : Ext h1 h4 := (ext_keep (ext_rfl h1) K4 all0)
      have xe60 : Ext h1 h6 := (ext_tr xe59 E6)
      have xe61 : Ext h1 h12 := (ext_keep xe60 K12 (allS (Nat.le_trans K4.1 (Nat.le_of_eq gq6.symm)) all0))
      have f62 : OStr Z h12 v_1 ne_1 := (p1_2.ext xe61)
      have xe63 : Ext h4 h6 := (ext_tr (ext_rfl h4) E6)
      have xe64 : Ext h4 h12 := (ext_keep xe63 K12 (allS (Nat.le_of_eq gq6.symm) all0))
      have f65 : OStr Z h12 v_4 ne_4 := (p4_2.ext xe64)
      have sz66 : h0.size ≤ h12.size := (Nat.le_trans sz11 K12.1)
      obtain ⟨cq67, kq67, q67a, q67b, q67c⟩ := isOf hZ4 e12 p12_0
      obtain ⟨_, _, ⟨T67, L67, kk67, nn67⟩, -, X67, ⟨Lc67, hQ67, lq67, yq67, zq67⟩, st67⟩ := X12.virtualBack hx (y := (⟨"com/example/credence/credence/Credentials", "blank", "()Z"⟩ : MethodName)) (z := (⟨"com/example/credence/credence/Credentials", "blank", "()Z"⟩ : MethodName)) hown4 (mvT hZ4 (w51 hw)) (mvT hZ4 (w52 hw)) (notFace_of_selects (args := #[]) (mvT hZ4 (w54 hw))) (mvT hZ4 (w54 hw)) (mvT hZ4 (w53 hw)) (by decide) (backOf (W := 0) (rm_blank l Z a0 hw [] b6 v_1 v_4 ne_1 ne_4 h12 n0 (Nat.le_trans Z0 sz66) p12_1 p12_2 hv_1 hv_4 f62 f65) hZ4 (w55 hw) (w37 hw) (by decide) (by decide)) q67a q67c (g := (mkF m 84 #[iv p0, iv p1, iv p2, iv p3, iv (p0 &&& (3 : Int32)), iv (p2 &&& (3 : Int32)), .val v_1, .val v_4, rv b6, iv 0, iv 0, iv 0] [(.ref b6)])) rfl (by rw [hml]; rfl) (Steps.refl _) (argsL := []) (rest := []) (lenOf pd_9 rfl) rfl (by show 2 * 0 + _ ≤ _; exact Nat.le_of_eq rfl) (hb hby at_84) (fun _ _ => ⟨rfl, e12, (by decide : 13 + 0 ≤ _), (by decide : 26 + 0 ≤ _)⟩)
      dsimp only [Pt.U, Pt.locs, Pt.cells, Pt.slots] at X67 lq67 yq67 zq67 st67 hQ67
      subst lq67 yq67 zq67
      obtain ⟨h67, e67⟩ : ∃ z, T67.heap = z := ⟨_, rfl⟩
      rw [e67] at hQ67
      obtain ⟨r_67, rfl, N67q, he67, hr_67⟩ := hQ67
      have N67 := Fr.app N12 N67q
      rw [he67] at e67
      refine go_tr st67 ?_
      show Go _ _ _ _ (T67.setTop (mkF m 87 #[iv p0, iv p1, iv p2, iv p3, iv (p0 &&& (3 : Int32)), iv (p2 &&& (3 : Int32)), .val v_1, .val v_4, rv b6, iv 0, iv 0, iv 0] [(.int r_67)]))
      refine go_st (fun t k => XS.iload X67.here hx rfl (hb hby at_87) rfl k) ?_
      show Go _ _ _ _ (T67.setTop (mkF m 89 #[iv p0, iv p1, iv p2, iv p3, iv (p0 &&& (3 : Int32)), iv (p2 &&& (3 : Int32)), .val v_1, .val v_4, rv b6, iv 0, iv 0, iv 0] [(.int 0), (.int r_67)]))
      refine go_st (fun t k => XS.icmpNo X67.here hx rfl (hb hby at_89) rfl (teq ((by rw [hr_67, hne_1, hne_4]; simp [hc14, hc44]) : r_67 = (0 : Int32))).2 k) ?_
      show Go _ _ _ _ (T67.setTop (mkF m 92 #[iv p0, iv p1, iv p2, iv p3, iv (p0 &&& (3 : Int32)), iv (p2 &&& (3 : Int32)), .val v_1, .val v_4, rv b6, iv 0, iv 0, iv 0] []))
      refine go_st (fun t k => XS.iconst X67.here hx rfl (hb hby at_92) k) ?_
      show Go _ _ _ _ (T67.setTop (mkF m 93 #[iv p0, iv p1, iv p2, iv p3, iv (p0 &&& (3 : Int32)), iv (p2 &&& (3 : Int32)), .val v_1, .val v_4, rv b6, iv 0, iv 0, iv 0] [(.int 1)]))
      refine go_st (fun t k => XS.goto X67.here hx rfl (pc0 := 93) (pc' := 97) rfl (hb hby at_93) (by decide) (by decide) k) ?_
      show Go _ _ _ _ (T67.setTop (mkF m 97 #[iv p0, iv p1, iv p2, iv p3, iv (p0 &&& (3 : Int32)), iv (p2 &&& (3 : Int32)), .val v_1, .val v_4, rv b6, iv 0, iv 0, iv 0] [(.int 1)]))
      have ke68 : Keep h0 h1 [] := (Keep.trans (Keep.refl h0 []) K1 all0)
      have ke69 : Keep h0 h4 [] := (Keep.trans ke68 K4 all0)
      have ke70 : Keep h0 h6 [] := (Keep.ext ke69 E6)
      have ke71 : Keep h0 h12 [] := (Keep.trans ke70 K12 (allS (Or.inr (Nat.le_trans sz10 (Nat.le_of_eq gq6.symm))) all0))
      have sz72 : h4.size ≤ h12.size := (Nat.le_trans E6.1 K12.1)
      obtain ⟨fs, hr, hrun, hended, hR⟩ := X67.leaveW hS4 (by rw [e67]; exact (Nat.le_trans (Nat.le_refl _) sz72)) (v := some (.int 1)) (fun h => by rw [Bd.returns] at h; cases h)
      refine ⟨_, _, ?_, hrun, hended, _, _, rfl, ?_, ?_, hR.1, hR.2.1, hR.2.2.1, hR.2.2.2.mono (by decide) (by decide)⟩
      · exact retN X67 hx (t := .boolean) Bd.returns (by simp) (hb hby at_97) hr
      · show Q_law _ _ _ _ _ _ _ _ _ T67.heap _
        rw [e67]
        exact ⟨rfl, N67, ke71⟩
      · show CHr Z consts_1 s.vm s.heap T67.vm T67.heap
        rw [hh, e67]
        exact CHr.trans C13 (CHv.at X67 hZ4 (hEL hw) C13.1)
set_option maxRecDepth 65536 in
set_option maxHeartbeats 40000000 in
theorem comes_1 {Post : Tables → Env → Array Value → State → Outcome → State → Prop} (hpost : ∀ tb e args s v u, (limb_1_1.after args s (.returned v) u = true ∧ limb_1_2.after args s (.returned v) u = true ∧ True) → ReturnedEndW s (.returned v) u (Jvm.fieldLocs frame_1_writes args s ++ Jvm.arrayLocs frame_1_arrays args s ++ Jvm.staticLocs frame_1_statics s) 32 1152 → Post tb e args s (.returned v) u) :
    ArmFor flags0 classFile x code maxLocals ret World_1 tables_1 room_1 Calls_1 rest_1 Pre_1 Post := by
  intro l hfl _ _ p e ha hc hk s m args below hf hA hF happ hP
  obtain ⟨hcalls, hrest, hpre⟩ := hP
  obtain ⟨-, -, -, hnamed, -, -, -, hat⟩ := (Spec.applies_iff hf).mp happ
  obtain ⟨hg, hn⟩ := and_e (Cond.before_iff.mp (show (Jvm.Cond.and given_1 narrow_1).before args s = true from hpre))
  obtain ⟨hcnt, ha0⟩ := and_e hg
  obtain ⟨gi0, ha1⟩ := and_e ha0
  obtain ⟨gi1, ha2⟩ := and_e ha1
  obtain ⟨gi2, ha3⟩ := and_e ha2
  have gi3 := ha3
  obtain ⟨w0_, w1_, w2_, w3_, rfl⟩ : ∃ w0_ w1_ w2_ w3_ : Value, args = #[w0_, w1_, w2_, w3_] := by
    have hs : args.size = 4 := by simpa [Cond.value, given_1] using hcnt
    obtain ⟨L⟩ := args
    match L, hs with
    | [w0_, w1_, w2_, w3_], _ => exact ⟨w0_, w1_, w2_, w3_, rfl⟩
  have hw := fun d (hd : d ∈ tables_1) => atoms_spec (ws := Jvm.Cond.code x code maxLocals ret :: tables_1) hat d (List.mem_cons_of_mem _ hd)
  have hfit : Fit s := fun {y c} hc i hi => by
    obtain ⟨ha, rfl⟩ := Array.getElem?_eq_some_iff.mp hc
    have q := List.all_eq_true.mp ((Array.all_eq_true_iff_forall_mem.mp hF) _ (Array.getElem_mem ha)) i (List.mem_range.mpr hi)
    simpa [Array.getElem?_eq_getElem hi] using q
  obtain ⟨hsets, hown0⟩ := atoms_of _ (rest_1_c_eq ▸ (show rest_1_c.before _ s = true from hrest))
  obtain ⟨i0, ei0⟩ := is_v gi0
  obtain rfl : w0_ = (.int i0) := Option.some.inj ei0
  obtain ⟨i1, ei1⟩ := is_v gi1
  obtain rfl : w1_ = (.int i1) := Option.some.inj ei1
  obtain ⟨i2, ei2⟩ := is_v gi2
  obtain rfl : w2_ = (.int i2) := Option.some.inj ei2
  obtain ⟨i3, ei3⟩ := is_v gi3
  obtain rfl : w3_ = (.int i3) := Option.some.inj ei3
  have n3 := not_v (Cond.before_iff.mp (hsets _ (List.mem_of_getElem? (i := 2) rfl)))
  obtain ⟨G1, e6⟩ := is_v (Cond.before_iff.mp (hsets _ (List.mem_of_getElem? (i := 1) rfl)))
  have CS : Sta s s.heap "java/lang/String" "COMPACT_STRINGS" "Z" (.int G1) := Sta.start e6 (Or.inl (hsets _ (List.mem_of_getElem? (i := 0) rfl)))
  have CSn : ¬ (G1 = (0 : Int32)) := gotF (Cond.eq_ints e6 (Term.int_eval (0))) n3
  have AD : Sta s s.heap "java/lang/StringUTF16" "$assertionsDisabled" "Z" (.int (1 : Int32)) := Sta.start (Cond.eq_int (hsets _ (List.mem_of_getElem? (i := 12) rfl)) rfl) (Or.inl (hsets _ (List.mem_of_getElem? (i := 11) rfl)))
  have HB : Sta s s.heap "java/lang/StringUTF16" "HI_BYTE_SHIFT" "I" (.int (0 : Int32)) := Sta.start (Cond.eq_int (hsets _ (List.mem_of_getElem? (i := 15) rfl)) rfl) (Or.inl (hsets _ (List.mem_of_getElem? (i := 14) rfl)))
  have LB : Sta s s.heap "java/lang/StringUTF16" "LO_BYTE_SHIFT" "I" (.int (8 : Int32)) := Sta.start (Cond.eq_int (hsets _ (List.mem_of_getElem? (i := 18) rfl)) rfl) (Or.inl (hsets _ (List.mem_of_getElem? (i := 17) rfl)))
  obtain ⟨n, o, h1, h2, h3, _, L, rfl, ⟨rfl, N, -⟩, -, hq⟩ := rm_law l s _ hw tables_1 i0 i1 i2 i3 G1 s.heap s.heap.size (Nat.le_refl _) CS CSn AD HB LB (Old.start s) p e ha hc hk s m _ below hf ((Spec.applies_iff_loose hf).mp happ).1 ⟨rfl, State.Warmed39.refl s, rfl, CHv.start (hEL hw) hcalls.1 (hsets _ (List.mem_of_getElem? (i := 2) rfl)) (w24 hw) (w7 hw)⟩ trivial
  refine ⟨n, _, h1, h2, h3, hpost _ _ _ _ _ _ ⟨Cond.after_iff.mpr rfl, Cond.after_iff.mpr (eq_i res_at (Term.int_eval (1)) rfl), trivial⟩ ⟨hq.1, hq.2.1, hq.2.2.1, (hq.2.2.2.sift fun y hy => Or.inr (N y hy)).mono (by decide) (by decide)⟩⟩
theorem main_1_1 : Claimed_1_1 := comes_1 fun _ _ _ _ _ _ h hF => ⟨h.1, hF⟩
theorem main_1_2 : Claimed_1_2 := comes_1 fun _ _ _ _ _ _ h hF => ⟨h.2.1, hF⟩
end Jvm.Pilot.@@N@@
namespace Jvm.Pilot.@@N@@
open Jvm Jvm.ClassFile Sem Op Lib Jvm.Free Jvm.Stand Jvm.Pilot.@@N@@.Jvm.D
/-! MADE BY PROGRAM (witnessworld.py) out of the Statement's table words and the real class files: 21 classes; the members and pool entries that the words name. The judged class is class 1, her method 2. -/
namespace start1
open Jvm.ClassFile
def u (s : String) : CpInfo := .utf8 (stringToUtf16 s)
/-- a pool by its gaps: so many unusable entries, then the entry; so many at the end -/
def gap : Nat → List CpInfo → List CpInfo
  | 0, r => r
  | n + 1, r => .unusable :: gap n r
def poolList (es : List (Nat × CpInfo)) (last : Nat) : List CpInfo := es.foldr (fun e r => gap e.1 (e.2 :: r)) (gap last [])
def pool (es : List (Nat × CpInfo)) (last : Nat) : Array CpInfo := ⟨poolList es last⟩
def fileOf (pool : Array CpInfo) (this : Nat) (attrs : Array Attribute := #[]) (ms : Array MethodInfo := #[]) (fl : Nat := 33) (sup : Nat := 0) (ifs : Array Nat := #[]) (fds : Array FieldInfo := #[]) : ClassFile where
  minorVersion := 0
  majorVersion := 65
  constantPool := pool
  accessFlags := fl
  thisClass := this
  superClass := sup
  interfaces := ifs
  fields := fds
  methods := ms
  attributes := attrs
def plain (name : String) (sup : Option ClassId) : Class where
  name := name
  kind := .ordinary
  loader := none
  accessFlags := 33
  super := sup
  interfaces := #[]
  cf := none
  fields := #[]
  methods := #[]
  instanceTypes := #[]
  staticTypes := #[]
  resolved := #[]
  callSites := []
  init := .initialized
  statics := none
  mirror := none

def pool0 : Array CpInfo := pool [(5, u "<init>"), (0, u "()V"), (1, .class_ 10), (1, u "java/lang/Object")] 113

def k0c0 : Code := { maxStack := 0, maxLocals := 1, code := object_method_1_code, exceptionTable := #[], attributes := #[] }
def k0m0 : Method := { name := "<init>", desc := "()V", sig := { parameters := [], returnType := none }, accessFlags := 1, code := some k0c0 }
/-- java/lang/Object -/
def k0 : Class := { plain "java/lang/Object" none with
  accessFlags := 33
  interfaces := #[]
  cf := some (fileOf pool0 8 #[] #[{ accessFlags := 1, nameIndex := 5, descriptorIndex := 6, attributes := #[] }] 33 0 #[] #[])
  fields := #[]
  methods := #[k0m0]
  instanceTypes := #[]
  staticTypes := #[]
  resolved := Array.replicate 124 none
  statics := none }

def pool1 : Array CpInfo := pool [(2, .class_ 4), (1, u "java/lang/Object"), (0, u "<init>"), (0, u "()V"), (0, .class_ 8), (0, u "java/lang/String"), (0, .methodref 7 10), (0, .nameAndType 5 11), (0, u "([C)V"), (0, .integer 65535), (0, .methodref 14 15), (0, .class_ 16), (0, .nameAndType 17 18), (0, u "com/example/credence/credence/CredentialsBlankPinLaw"), (0, u "make"), (0, u "(II)Ljava/lang/String;"), (0, .class_ 20), (0, u "com/example/credence/credence/Credentials"), (0, .methodref 19 22), (0, .nameAndType 5 23), (0, u "(Ljava/lang/String;Ljava/lang/String;)V"), (0, .methodref 19 25), (0, .nameAndType 26 27), (0, u "blank"), (0, u "()Z"), (3, u "law"), (0, u "(IIII)Z")] 2

def k1m0 : Method := { name := "<init>", desc := "()V", sig := { parameters := [], returnType := none }, accessFlags := 1, code := none }
def k1c1 : Code := { maxStack := 4, maxLocals := 3, code := method_2_code, exceptionTable := #[], attributes := #[] }
def k1m1 : Method := { name := "make", desc := "(II)Ljava/lang/String;", sig := { parameters := [.int, .int], returnType := some (.object "java/lang/String") }, accessFlags := 10, code := some k1c1 }
def k1c2 : Code := { maxStack := 4, maxLocals := 12, code := code, exceptionTable := #[], attributes := #[] }
def k1m2 : Method := { name := "law", desc := "(IIII)Z", sig := { parameters := [.int, .int, .int, .int], returnType := some .boolean }, accessFlags := 9, code := some k1c2 }
/-- com/example/credence/credence/CredentialsBlankPinLaw -/
def k1 : Class := { plain "com/example/credence/credence/CredentialsBlankPinLaw" (some 0) with
  accessFlags := 49
  interfaces := #[]
  cf := some (fileOf pool1 14 #[] #[{ accessFlags := 1, nameIndex := 5, descriptorIndex := 6, attributes := #[] }, { accessFlags := 10, nameIndex := 17, descriptorIndex := 18, attributes := #[] }, { accessFlags := 9, nameIndex := 31, descriptorIndex := 32, attributes := #[] }] 49 2 #[] #[])
  fields := #[]
  methods := #[k1m0, k1m1, k1m2]
  instanceTypes := #[]
  staticTypes := #[]
  resolved := Array.replicate 35 none
  statics := none }

def pool2 : Array CpInfo := pool [(1, .class_ 2), (0, u "java/io/Serializable"), (0, .class_ 4), (0, u "java/lang/Object")] 2

/-- java/io/Serializable -/
def k2 : Class := { plain "java/io/Serializable" (some 0) with
  accessFlags := 1537
  interfaces := #[]
  cf := some (fileOf pool2 1 #[] #[] 1537 3 #[] #[])
  fields := #[]
  methods := #[]
  instanceTypes := #[]
  staticTypes := #[]
  resolved := Array.replicate 7 none
  statics := none }

def pool3 : Array CpInfo := pool [(1, .class_ 2), (0, u "java/lang/Comparable"), (0, .class_ 4), (0, u "java/lang/Object")] 7

/-- java/lang/Comparable -/
def k3 : Class := { plain "java/lang/Comparable" (some 0) with
  accessFlags := 1537
  interfaces := #[]
  cf := some (fileOf pool3 1 #[] #[] 1537 3 #[] #[])
  fields := #[]
  methods := #[]
  instanceTypes := #[]
  staticTypes := #[]
  resolved := Array.replicate 12 none
  statics := none }

def pool4 : Array CpInfo := pool [(2, .class_ 4), (1, u "java/lang/CharSequence"), (42, .class_ 48), (0, u "java/lang/CharSequence$1CodePointIterator"), (10, .class_ 60), (0, u "java/lang/CharSequence$1CharIterator"), (5, .class_ 67), (0, u "java/lang/Object")] 63

/-- java/lang/CharSequence -/
def k4 : Class := { plain "java/lang/CharSequence" (some 0) with
  accessFlags := 1537
  interfaces := #[]
  cf := some (fileOf pool4 2 #[.nestMembers #[47, 59]] #[] 1537 66 #[] #[])
  fields := #[]
  methods := #[]
  instanceTypes := #[]
  staticTypes := #[]
  resolved := Array.replicate 131 none
  statics := none }

def pool5 : Array CpInfo := pool [(1, .class_ 2), (0, u "java/lang/constant/Constable"), (0, .class_ 4), (0, u "java/lang/Object")] 6

/-- java/lang/constant/Constable -/
def k5 : Class := { plain "java/lang/constant/Constable" (some 0) with
  accessFlags := 1537
  interfaces := #[]
  cf := some (fileOf pool5 1 #[] #[] 1537 3 #[] #[])
  fields := #[]
  methods := #[]
  instanceTypes := #[]
  staticTypes := #[]
  resolved := Array.replicate 11 none
  statics := none }

def pool6 : Array CpInfo := pool [(1, .class_ 2), (0, u "java/lang/constant/ConstantDesc"), (0, .class_ 4), (0, u "java/lang/Object")] 32

/-- java/lang/constant/ConstantDesc -/
def k6 : Class := { plain "java/lang/constant/ConstantDesc" (some 0) with
  accessFlags := 1537
  interfaces := #[]
  cf := some (fileOf pool6 1 #[] #[] 1537 3 #[] #[])
  fields := #[]
  methods := #[]
  instanceTypes := #[]
  staticTypes := #[]
  resolved := Array.replicate 37 none
  statics := none }

def pool7 : Array CpInfo := pool [(1, .methodref 2 3), (0, .class_ 4), (0, .nameAndType 5 6), (0, u "java/lang/Object"), (0, u "<init>"), (0, u "()V"), (0, .string 8), (0, u ""), (0, .fieldref 10 11), (0, .class_ 12), (0, .nameAndType 13 14), (0, u "java/lang/String"), (0, u "value"), (0, u "[B"), (0, .fieldref 10 16), (0, .nameAndType 17 18), (0, u "coder"), (0, u "B"), (2, u "hash"), (0, u "I"), (2, u "hashIsZero"), (0, u "Z"), (0, .methodref 10 28), (0, .nameAndType 5 29), (0, u "([CIILjava/lang/Void;)V"), (8, .fieldref 10 39), (0, .nameAndType 40 26), (0, u "COMPACT_STRINGS"), (1, .class_ 44), (1, u "java/lang/StringUTF16"), (0, u "compress"), (1, .methodref 42 48), (0, .nameAndType 49 50), (0, u "coderFromArrayLen"), (0, u "([BI)B"), (91, u "()Z"), (34, .methodref 42 178), (0, .nameAndType 45 179), (0, u "([CII)[B"), (395, .class_ 576), (0, u "java/lang/CharSequence"), (22, u "CASE_INSENSITIVE_ORDER"), (0, u "Ljava/util/Comparator;"), (91, u "isEmpty"), (317, u "([C)V"), (90, u "serialPersistentFields"), (0, u "[Ljava/io/ObjectStreamField;"), (0, .class_ 1104), (0, u "java/lang/String$CaseInsensitiveComparator"), (1, .class_ 1107), (0, u "java/io/Serializable"), (0, .class_ 1109), (0, u "java/lang/Comparable"), (0, .class_ 1111), (0, u "java/lang/constant/Constable"), (0, .class_ 1113), (0, u "java/lang/constant/ConstantDesc"), (2, u "serialVersionUID"), (0, u "J"), (3, u "REPL"), (0, u "C"), (2, u "LATIN1"), (1, u "UTF16")] 323

def k7m0 : Method := { name := "<init>", desc := "()V", sig := { parameters := [], returnType := none }, accessFlags := 1, code := none }
def k7c1 : Code := { maxStack := 5, maxLocals := 2, code := jdk_42_method_3_code, exceptionTable := #[], attributes := #[] }
def k7m1 : Method := { name := "<init>", desc := "([C)V", sig := { parameters := [(.array .char)], returnType := none }, accessFlags := 1, code := some k7c1 }
def k7c2 : Code := { maxStack := 1, maxLocals := 1, code := jdk_42_method_55_code, exceptionTable := #[], attributes := #[] }
def k7m2 : Method := { name := "isEmpty", desc := "()Z", sig := { parameters := [], returnType := some .boolean }, accessFlags := 1, code := some k7c2 }
def k7c3 : Code := { maxStack := 4, maxLocals := 6, code := jdk_42_method_149_code, exceptionTable := #[], attributes := #[] }
def k7m3 : Method := { name := "<init>", desc := "([CIILjava/lang/Void;)V", sig := { parameters := [(.array .char), .int, .int, (.object "java/lang/Void")], returnType := none }, accessFlags := 2, code := some k7c3 }
/-- java/lang/String -/
def k7 : Class := { plain "java/lang/String" (some 0) with
  accessFlags := 49
  interfaces := #[2, 3, 4, 5, 6]
  cf := some (fileOf pool7 10 #[.nestMembers #[1103]] #[{ accessFlags := 1, nameIndex := 5, descriptorIndex := 6, attributes := #[] }, { accessFlags := 1, nameIndex := 5, descriptorIndex := 1010, attributes := #[] }, { accessFlags := 1, nameIndex := 692, descriptorIndex := 142, attributes := #[] }, { accessFlags := 2, nameIndex := 5, descriptorIndex := 29, attributes := #[] }] 49 2 #[1106, 1108, 575, 1110, 1112] #[{ accessFlags := 18, nameIndex := 13, descriptorIndex := 14, attributes := #[] }, { accessFlags := 18, nameIndex := 17, descriptorIndex := 18, attributes := #[] }, { accessFlags := 2, nameIndex := 21, descriptorIndex := 22, attributes := #[] }, { accessFlags := 2, nameIndex := 25, descriptorIndex := 26, attributes := #[] }, { accessFlags := 26, nameIndex := 1116, descriptorIndex := 1117, attributes := #[] }, { accessFlags := 24, nameIndex := 40, descriptorIndex := 26, attributes := #[] }, { accessFlags := 26, nameIndex := 1101, descriptorIndex := 1102, attributes := #[] }, { accessFlags := 26, nameIndex := 1121, descriptorIndex := 1122, attributes := #[] }, { accessFlags := 25, nameIndex := 599, descriptorIndex := 600, attributes := #[] }, { accessFlags := 24, nameIndex := 1125, descriptorIndex := 18, attributes := #[] }, { accessFlags := 24, nameIndex := 1127, descriptorIndex := 18, attributes := #[] }])
  fields := #[{ name := "value", type := (.array .byte), accessFlags := 18, slot := 0, constantValue := 0 }, { name := "coder", type := .byte, accessFlags := 18, slot := 1, constantValue := 0 }, { name := "hash", type := .int, accessFlags := 2, slot := 2, constantValue := 0 }, { name := "hashIsZero", type := .boolean, accessFlags := 2, slot := 3, constantValue := 0 }, { name := "serialVersionUID", type := .long, accessFlags := 26, slot := 0, constantValue := 0 }, { name := "COMPACT_STRINGS", type := .boolean, accessFlags := 24, slot := 1, constantValue := 0 }, { name := "serialPersistentFields", type := (.array (.object "java/io/ObjectStreamField")), accessFlags := 26, slot := 2, constantValue := 0 }, { name := "REPL", type := .char, accessFlags := 26, slot := 3, constantValue := 0 }, { name := "CASE_INSENSITIVE_ORDER", type := (.object "java/util/Comparator"), accessFlags := 25, slot := 4, constantValue := 0 }, { name := "LATIN1", type := .byte, accessFlags := 24, slot := 5, constantValue := 0 }, { name := "UTF16", type := .byte, accessFlags := 24, slot := 6, constantValue := 0 }]
  methods := #[k7m0, k7m1, k7m2, k7m3]
  instanceTypes := #[(.array .byte), .byte, .int, .boolean]
  staticTypes := #[.long, .boolean, (.array (.object "java/io/ObjectStreamField")), .char, (.object "java/util/Comparator"), .byte, .byte]
  resolved := Array.replicate 1451 none
  statics := some 0 }

def pool8 : Array CpInfo := pool [(6, .class_ 8), (1, u "java/lang/Object"), (0, u "<init>"), (0, u "()V"), (0, .methodref 12 13), (0, .class_ 14), (0, .nameAndType 15 16), (0, u "java/lang/StringUTF16"), (0, u "newBytesLength"), (0, u "(I)I"), (3, .integer 1073741823), (23, .fieldref 12 45), (0, .nameAndType 46 47), (0, u "$assertionsDisabled"), (0, u "Z"), (11, .fieldref 12 60), (0, .nameAndType 61 62), (0, u "HI_BYTE_SHIFT"), (0, u "I"), (0, .fieldref 12 64), (0, .nameAndType 65 62), (0, u "LO_BYTE_SHIFT"), (5, .methodref 12 72), (0, .nameAndType 73 74), (0, u "getChar"), (0, u "([BI)C"), (32, .methodref 12 108), (0, .nameAndType 109 110), (0, u "newBytesFor"), (0, u "(I)[B"), (0, .methodref 12 112), (0, .nameAndType 113 114), (0, u "putChar"), (0, u "([BII)V"), (0, .methodref 12 116), (0, .nameAndType 117 118), (0, u "compress"), (0, u "([CI[BII)I"), (0, .methodref 12 120), (0, .nameAndType 121 122), (0, u "toBytes"), (0, u "([CII)[B"), (138, u "coderFromArrayLen"), (0, u "([BI)B"), (106, .class_ 371), (1, u "java/lang/StringUTF16$LinesSpliterator"), (58, u "MAX_LENGTH"), (196, .class_ 628), (0, u "java/lang/StringUTF16$CodePointsSpliterator"), (0, .class_ 630), (0, u "java/lang/StringUTF16$CharsSpliterator")] 4

def k8m0 : Method := { name := "<init>", desc := "()V", sig := { parameters := [], returnType := none }, accessFlags := 0, code := none }
def k8c1 : Code := { maxStack := 1, maxLocals := 1, code := jdk_52_method_2_code, exceptionTable := #[], attributes := #[] }
def k8m1 : Method := { name := "newBytesFor", desc := "(I)[B", sig := { parameters := [.int], returnType := some (.array .byte) }, accessFlags := 9, code := some k8c1 }
def k8c2 : Code := { maxStack := 4, maxLocals := 1, code := jdk_52_method_3_code, exceptionTable := #[], attributes := #[] }
def k8m2 : Method := { name := "newBytesLength", desc := "(I)I", sig := { parameters := [.int], returnType := some .int }, accessFlags := 9, code := some k8c2 }
def k8c3 : Code := { maxStack := 4, maxLocals := 3, code := jdk_52_method_4_code, exceptionTable := #[], attributes := #[] }
def k8m3 : Method := { name := "putChar", desc := "([BII)V", sig := { parameters := [(.array .byte), .int, .int], returnType := none }, accessFlags := 8, code := some k8c3 }
def k8c4 : Code := { maxStack := 3, maxLocals := 2, code := jdk_52_method_5_code, exceptionTable := #[], attributes := #[] }
def k8m4 : Method := { name := "getChar", desc := "([BI)C", sig := { parameters := [(.array .byte), .int], returnType := some .char }, accessFlags := 8, code := some k8c4 }
def k8c5 : Code := { maxStack := 4, maxLocals := 5, code := jdk_52_method_14_code, exceptionTable := #[], attributes := #[] }
def k8m5 : Method := { name := "toBytes", desc := "([CII)[B", sig := { parameters := [(.array .char), .int, .int], returnType := some (.array .byte) }, accessFlags := 9, code := some k8c5 }
def k8c6 : Code := { maxStack := 2, maxLocals := 2, code := jdk_52_method_15_code, exceptionTable := #[], attributes := #[] }
def k8m6 : Method := { name := "coderFromArrayLen", desc := "([BI)B", sig := { parameters := [(.array .byte), .int], returnType := some .byte }, accessFlags := 8, code := some k8c6 }
def k8c7 : Code := { maxStack := 5, maxLocals := 6, code := jdk_52_method_16_code, exceptionTable := #[], attributes := #[] }
def k8m7 : Method := { name := "compress", desc := "([CII)[B", sig := { parameters := [(.array .char), .int, .int], returnType := some (.array .byte) }, accessFlags := 9, code := some k8c7 }
def k8c8 : Code := { maxStack := 3, maxLocals := 7, code := jdk_52_method_21_code, exceptionTable := #[], attributes := #[] }
def k8m8 : Method := { name := "compress", desc := "([CI[BII)I", sig := { parameters := [(.array .char), .int, (.array .byte), .int, .int], returnType := some .int }, accessFlags := 9, code := some k8c8 }
/-- java/lang/StringUTF16 -/
def k8 : Class := { plain "java/lang/StringUTF16" (some 0) with
  accessFlags := 48
  interfaces := #[]
  cf := some (fileOf pool8 12 #[.nestMembers #[627, 629, 369]] #[{ accessFlags := 0, nameIndex := 9, descriptorIndex := 10, attributes := #[] }, { accessFlags := 9, nameIndex := 109, descriptorIndex := 110, attributes := #[] }, { accessFlags := 9, nameIndex := 15, descriptorIndex := 16, attributes := #[] }, { accessFlags := 8, nameIndex := 113, descriptorIndex := 114, attributes := #[] }, { accessFlags := 8, nameIndex := 73, descriptorIndex := 74, attributes := #[] }, { accessFlags := 9, nameIndex := 121, descriptorIndex := 122, attributes := #[] }, { accessFlags := 8, nameIndex := 261, descriptorIndex := 262, attributes := #[] }, { accessFlags := 9, nameIndex := 117, descriptorIndex := 122, attributes := #[] }, { accessFlags := 9, nameIndex := 117, descriptorIndex := 118, attributes := #[] }] 48 6 #[] #[{ accessFlags := 26, nameIndex := 61, descriptorIndex := 62, attributes := #[] }, { accessFlags := 26, nameIndex := 65, descriptorIndex := 62, attributes := #[] }, { accessFlags := 24, nameIndex := 430, descriptorIndex := 62, attributes := #[] }, { accessFlags := 4120, nameIndex := 46, descriptorIndex := 47, attributes := #[] }])
  fields := #[{ name := "HI_BYTE_SHIFT", type := .int, accessFlags := 26, slot := 0, constantValue := 0 }, { name := "LO_BYTE_SHIFT", type := .int, accessFlags := 26, slot := 1, constantValue := 0 }, { name := "MAX_LENGTH", type := .int, accessFlags := 24, slot := 2, constantValue := 0 }, { name := "$assertionsDisabled", type := .boolean, accessFlags := 4120, slot := 3, constantValue := 0 }]
  methods := #[k8m0, k8m1, k8m2, k8m3, k8m4, k8m5, k8m6, k8m7, k8m8]
  instanceTypes := #[]
  staticTypes := #[.int, .int, .int, .boolean]
  resolved := Array.replicate 635 none
  statics := some 1 }

def pool9 : Array CpInfo := pool [(1, .methodref 2 3), (0, .class_ 4), (0, .nameAndType 5 6), (0, u "java/lang/Object"), (0, u "<init>"), (0, u "()V"), (0, .class_ 8), (0, u "java/lang/Record")] 13

def k9c0 : Code := { maxStack := 1, maxLocals := 1, code := jdk_30_method_1_code, exceptionTable := #[], attributes := #[] }
def k9m0 : Method := { name := "<init>", desc := "()V", sig := { parameters := [], returnType := none }, accessFlags := 4, code := some k9c0 }
/-- java/lang/Record -/
def k9 : Class := { plain "java/lang/Record" (some 0) with
  accessFlags := 1057
  interfaces := #[]
  cf := some (fileOf pool9 7 #[] #[{ accessFlags := 4, nameIndex := 5, descriptorIndex := 6, attributes := #[] }] 1057 2 #[] #[])
  fields := #[]
  methods := #[k9m0]
  instanceTypes := #[]
  staticTypes := #[]
  resolved := Array.replicate 22 none
  statics := none }

def pool10 : Array CpInfo := pool [(1, .methodref 2 3), (0, .class_ 4), (0, .nameAndType 5 6), (0, u "java/lang/Record"), (0, u "<init>"), (0, u "()V"), (0, .fieldref 8 9), (0, .class_ 10), (0, .nameAndType 11 12), (0, u "com/example/credence/credence/Credentials"), (0, u "username"), (0, u "Ljava/lang/String;"), (0, .fieldref 8 14), (0, .nameAndType 15 12), (0, u "password"), (0, .methodref 17 18), (0, .class_ 19), (0, .nameAndType 20 21), (0, u "java/lang/String"), (0, u "isEmpty"), (0, u "()Z"), (12, u "(Ljava/lang/String;Ljava/lang/String;)V"), (5, u "blank")] 33

def k10c0 : Code := { maxStack := 2, maxLocals := 3, code := prog_3_method_1_code, exceptionTable := #[], attributes := #[] }
def k10m0 : Method := { name := "<init>", desc := "(Ljava/lang/String;Ljava/lang/String;)V", sig := { parameters := [(.object "java/lang/String"), (.object "java/lang/String")], returnType := none }, accessFlags := 1, code := some k10c0 }
def k10c1 : Code := { maxStack := 1, maxLocals := 1, code := prog_3_method_3_code, exceptionTable := #[], attributes := #[] }
def k10m1 : Method := { name := "blank", desc := "()Z", sig := { parameters := [], returnType := some .boolean }, accessFlags := 0, code := some k10c1 }
/-- com/example/credence/credence/Credentials -/
def k10 : Class := { plain "com/example/credence/credence/Credentials" (some 9) with
  accessFlags := 49
  interfaces := #[]
  cf := some (fileOf pool10 8 #[] #[{ accessFlags := 1, nameIndex := 5, descriptorIndex := 34, attributes := #[] }, { accessFlags := 0, nameIndex := 40, descriptorIndex := 21, attributes := #[] }] 49 2 #[] #[{ accessFlags := 18, nameIndex := 11, descriptorIndex := 12, attributes := #[] }, { accessFlags := 18, nameIndex := 15, descriptorIndex := 12, attributes := #[] }])
  fields := #[{ name := "username", type := (.object "java/lang/String"), accessFlags := 18, slot := 0, constantValue := 0 }, { name := "password", type := (.object "java/lang/String"), accessFlags := 18, slot := 1, constantValue := 0 }]
  methods := #[k10m0, k10m1]
  instanceTypes := #[(.object "java/lang/String"), (.object "java/lang/String")]
  staticTypes := #[]
  resolved := Array.replicate 74 none
  statics := none }

def pool11 : Array CpInfo := pool [(4, .class_ 6), (1, u "java/lang/Object"), (0, u "<init>"), (0, u "()V"), (5, .class_ 16), (1, u "java/lang/StringLatin1"), (104, u "$assertionsDisabled"), (0, u "Z"), (98, .class_ 223), (1, u "java/lang/StringLatin1$LinesSpliterator"), (166, .class_ 391), (0, u "java/lang/StringLatin1$CharsSpliterator")] 3

def k11m0 : Method := { name := "<init>", desc := "()V", sig := { parameters := [], returnType := none }, accessFlags := 0, code := none }
/-- java/lang/StringLatin1 -/
def k11 : Class := { plain "java/lang/StringLatin1" (some 0) with
  accessFlags := 48
  interfaces := #[]
  cf := some (fileOf pool11 14 #[.nestMembers #[390, 221]] #[{ accessFlags := 0, nameIndex := 7, descriptorIndex := 8, attributes := #[] }] 48 4 #[] #[{ accessFlags := 4120, nameIndex := 121, descriptorIndex := 122, attributes := #[] }])
  fields := #[{ name := "$assertionsDisabled", type := .boolean, accessFlags := 4120, slot := 0, constantValue := 0 }]
  methods := #[k11m0]
  instanceTypes := #[]
  staticTypes := #[.boolean]
  resolved := Array.replicate 395 none
  statics := none }

def pool12 : Array CpInfo := pool [(2, .class_ 4), (1, u "java/lang/Object"), (0, u "<init>"), (0, u "()V"), (17, .class_ 26), (1, u "jdk/internal/util/Preconditions"), (28, .class_ 56), (0, u "jdk/internal/util/Preconditions$4"), (57, .class_ 115), (0, u "jdk/internal/util/Preconditions$1"), (7, u "SIOOBE_FORMATTER"), (0, u "Ljava/util/function/BiFunction;"), (0, .class_ 126), (0, u "jdk/internal/util/Preconditions$2"), (3, u "AIOOBE_FORMATTER"), (0, .class_ 132), (0, u "jdk/internal/util/Preconditions$3"), (3, u "IOOBE_FORMATTER")] 57

def k12m0 : Method := { name := "<init>", desc := "()V", sig := { parameters := [], returnType := none }, accessFlags := 1, code := none }
/-- jdk/internal/util/Preconditions -/
def k12 : Class := { plain "jdk/internal/util/Preconditions" (some 0) with
  accessFlags := 33
  interfaces := #[]
  cf := some (fileOf pool12 24 #[.nestMembers #[55, 131, 125, 114]] #[{ accessFlags := 1, nameIndex := 5, descriptorIndex := 6, attributes := #[] }] 33 2 #[] #[{ accessFlags := 25, nameIndex := 123, descriptorIndex := 124, attributes := #[] }, { accessFlags := 25, nameIndex := 130, descriptorIndex := 124, attributes := #[] }, { accessFlags := 25, nameIndex := 136, descriptorIndex := 124, attributes := #[] }])
  fields := #[{ name := "SIOOBE_FORMATTER", type := (.object "java/util/function/BiFunction"), accessFlags := 25, slot := 0, constantValue := 0 }, { name := "AIOOBE_FORMATTER", type := (.object "java/util/function/BiFunction"), accessFlags := 25, slot := 1, constantValue := 0 }, { name := "IOOBE_FORMATTER", type := (.object "java/util/function/BiFunction"), accessFlags := 25, slot := 2, constantValue := 0 }]
  methods := #[k12m0]
  instanceTypes := #[]
  staticTypes := #[(.object "java/util/function/BiFunction"), (.object "java/util/function/BiFunction"), (.object "java/util/function/BiFunction")]
  resolved := Array.replicate 194 none
  statics := some 2 }

def pool13 : Array CpInfo := pool [(9, u "<init>"), (6, .class_ 18), (1, u "java/lang/Object"), (0, u "()V"), (1, .class_ 23), (1, u "jdk/internal/util/ArraysSupport"), (0, u "LOG2_ARRAY_LONG_INDEX_SCALE"), (0, u "I"), (2, u "U"), (0, u "Ljdk/internal/misc/Unsafe;"), (8, u "BIG_ENDIAN"), (0, u "Z"), (8, u "LOG2_BYTE_BIT_SIZE"), (4, u "LOG2_ARRAY_INT_INDEX_SCALE"), (54, u "JLA"), (0, u "Ljdk/internal/access/JavaLangAccess;"), (11, u "LOG2_ARRAY_BOOLEAN_INDEX_SCALE"), (9, u "LOG2_ARRAY_BYTE_INDEX_SCALE"), (5, u "LOG2_ARRAY_CHAR_INDEX_SCALE"), (5, u "LOG2_ARRAY_SHORT_INDEX_SCALE"), (18, u "LOG2_ARRAY_FLOAT_INDEX_SCALE"), (24, u "LOG2_ARRAY_DOUBLE_INDEX_SCALE"), (89, u "T_BOOLEAN"), (2, u "T_CHAR"), (1, u "T_FLOAT"), (1, u "T_DOUBLE"), (1, u "T_BYTE"), (1, u "T_SHORT"), (1, u "T_INT"), (1, u "T_LONG"), (1, u "SOFT_MAX_ARRAY_LENGTH")] 83

def k13m0 : Method := { name := "<init>", desc := "()V", sig := { parameters := [], returnType := none }, accessFlags := 2, code := none }
/-- jdk/internal/util/ArraysSupport -/
def k13 : Class := { plain "jdk/internal/util/ArraysSupport" (some 0) with
  accessFlags := 33
  interfaces := #[]
  cf := some (fileOf pool13 21 #[] #[{ accessFlags := 2, nameIndex := 9, descriptorIndex := 19, attributes := #[] }] 33 16 #[] #[{ accessFlags := 24, nameIndex := 28, descriptorIndex := 29, attributes := #[] }, { accessFlags := 26, nameIndex := 38, descriptorIndex := 39, attributes := #[] }, { accessFlags := 25, nameIndex := 121, descriptorIndex := 25, attributes := #[] }, { accessFlags := 25, nameIndex := 131, descriptorIndex := 25, attributes := #[] }, { accessFlags := 25, nameIndex := 137, descriptorIndex := 25, attributes := #[] }, { accessFlags := 25, nameIndex := 143, descriptorIndex := 25, attributes := #[] }, { accessFlags := 25, nameIndex := 53, descriptorIndex := 25, attributes := #[] }, { accessFlags := 25, nameIndex := 24, descriptorIndex := 25, attributes := #[] }, { accessFlags := 25, nameIndex := 162, descriptorIndex := 25, attributes := #[] }, { accessFlags := 25, nameIndex := 187, descriptorIndex := 25, attributes := #[] }, { accessFlags := 26, nameIndex := 48, descriptorIndex := 25, attributes := #[] }, { accessFlags := 25, nameIndex := 277, descriptorIndex := 25, attributes := #[] }, { accessFlags := 25, nameIndex := 280, descriptorIndex := 25, attributes := #[] }, { accessFlags := 25, nameIndex := 282, descriptorIndex := 25, attributes := #[] }, { accessFlags := 25, nameIndex := 284, descriptorIndex := 25, attributes := #[] }, { accessFlags := 25, nameIndex := 286, descriptorIndex := 25, attributes := #[] }, { accessFlags := 25, nameIndex := 288, descriptorIndex := 25, attributes := #[] }, { accessFlags := 25, nameIndex := 290, descriptorIndex := 25, attributes := #[] }, { accessFlags := 25, nameIndex := 292, descriptorIndex := 25, attributes := #[] }, { accessFlags := 26, nameIndex := 108, descriptorIndex := 109, attributes := #[] }, { accessFlags := 25, nameIndex := 294, descriptorIndex := 25, attributes := #[] }])
  fields := #[{ name := "U", type := (.object "jdk/internal/misc/Unsafe"), accessFlags := 24, slot := 0, constantValue := 0 }, { name := "BIG_ENDIAN", type := .boolean, accessFlags := 26, slot := 1, constantValue := 0 }, { name := "LOG2_ARRAY_BOOLEAN_INDEX_SCALE", type := .int, accessFlags := 25, slot := 2, constantValue := 0 }, { name := "LOG2_ARRAY_BYTE_INDEX_SCALE", type := .int, accessFlags := 25, slot := 3, constantValue := 0 }, { name := "LOG2_ARRAY_CHAR_INDEX_SCALE", type := .int, accessFlags := 25, slot := 4, constantValue := 0 }, { name := "LOG2_ARRAY_SHORT_INDEX_SCALE", type := .int, accessFlags := 25, slot := 5, constantValue := 0 }, { name := "LOG2_ARRAY_INT_INDEX_SCALE", type := .int, accessFlags := 25, slot := 6, constantValue := 0 }, { name := "LOG2_ARRAY_LONG_INDEX_SCALE", type := .int, accessFlags := 25, slot := 7, constantValue := 0 }, { name := "LOG2_ARRAY_FLOAT_INDEX_SCALE", type := .int, accessFlags := 25, slot := 8, constantValue := 0 }, { name := "LOG2_ARRAY_DOUBLE_INDEX_SCALE", type := .int, accessFlags := 25, slot := 9, constantValue := 0 }, { name := "LOG2_BYTE_BIT_SIZE", type := .int, accessFlags := 26, slot := 10, constantValue := 0 }, { name := "T_BOOLEAN", type := .int, accessFlags := 25, slot := 11, constantValue := 0 }, { name := "T_CHAR", type := .int, accessFlags := 25, slot := 12, constantValue := 0 }, { name := "T_FLOAT", type := .int, accessFlags := 25, slot := 13, constantValue := 0 }, { name := "T_DOUBLE", type := .int, accessFlags := 25, slot := 14, constantValue := 0 }, { name := "T_BYTE", type := .int, accessFlags := 25, slot := 15, constantValue := 0 }, { name := "T_SHORT", type := .int, accessFlags := 25, slot := 16, constantValue := 0 }, { name := "T_INT", type := .int, accessFlags := 25, slot := 17, constantValue := 0 }, { name := "T_LONG", type := .int, accessFlags := 25, slot := 18, constantValue := 0 }, { name := "JLA", type := (.object "jdk/internal/access/JavaLangAccess"), accessFlags := 26, slot := 19, constantValue := 0 }, { name := "SOFT_MAX_ARRAY_LENGTH", type := .int, accessFlags := 25, slot := 20, constantValue := 0 }]
  methods := #[k13m0]
  instanceTypes := #[]
  staticTypes := #[(.object "jdk/internal/misc/Unsafe"), .boolean, .int, .int, .int, .int, .int, .int, .int, .int, .int, .int, .int, .int, .int, .int, .int, .int, .int, (.object "jdk/internal/access/JavaLangAccess"), .int]
  resolved := Array.replicate 378 none
  statics := none }

def pool14 : Array CpInfo := pool [(1, u "java/lang/Cloneable"), (0, .class_ 1), (0, u "java/lang/Object"), (0, .class_ 3)] 3

/-- java/lang/Cloneable -/
def k14 : Class := { plain "java/lang/Cloneable" (some 0) with
  accessFlags := 1537
  interfaces := #[]
  cf := some (fileOf pool14 2 #[] #[] 1537 4 #[] #[])
  fields := #[]
  methods := #[]
  instanceTypes := #[]
  staticTypes := #[]
  resolved := Array.replicate 8 none
  statics := none }

/-- the primitive byte -/
def k15 : Class := { plain "byte" none with kind := .primitive 'B', accessFlags := 0x411 }
/-- [B -/
def k16 : Class := { plain "[B" (some 0) with kind := .array 15 .byte, interfaces := #[14, 2], accessFlags := 1041 }

/-- the primitive char -/
def k17 : Class := { plain "char" none with kind := .primitive 'C', accessFlags := 0x411 }
/-- [C -/
def k18 : Class := { plain "[C" (some 0) with kind := .array 17 .char, interfaces := #[14, 2], accessFlags := 1041 }

/-- the primitive int -/
def k19 : Class := { plain "int" none with kind := .primitive 'I', accessFlags := 0x411 }
/-- [I -/
def k20 : Class := { plain "[I" (some 0) with kind := .array 19 .int, interfaces := #[14, 2], accessFlags := 1041 }

def heap : Heap := #[{ cls := 7, slots := #[.long 0, .int 1, .null, .int 0, .null, .int 0, .int 0], vm := .statics 7 },
  { cls := 8, slots := #[.int 0, .int 8, .int 0, .int 1], vm := .statics 8 },
  { cls := 12, slots := #[.null, .null, .null], vm := .statics 12 }]
def classes : Array Class := #[k0, k1, k2, k3, k4, k5, k6, k7, k8, k9, k10, k11, k12, k13, k14, k15, k16, k17, k18, k19, k20]
def interned : List (Array UInt16 × Addr) := []
def slotsUsed : Nat := 14
def theMethod : MethodId := ⟨1, 2⟩
def args0 : Array Value := #[.int 5, .int 5, .int 5, .int 5]
def aboutOver (below : List Frame) : State where
  vm := { classes := classes, interned := interned.toArray }
  heap := heap
  slotsUsed := slotsUsed
  threads := #[{ frames := .invoking theMethod args0 :: below }]
def below0 : List Frame := [.native { method := ⟨0, 0⟩, args := #[] }]
def about1 : State := aboutOver below0
def p0 : Program := .bare "" "" ""
def e0 : Env := launch0.env 0 0 0
theorem w_frames : about1.frames = Frame.invoking theMethod args0 :: below0 := rfl
set_option maxRecDepth 65536 in
theorem w_args : argsFit about1.vm theMethod args0 = true := by decide +kernel
set_option maxRecDepth 65536 in
theorem w_heap : heapFits about1 = true := by decide +kernel
set_option maxRecDepth 65536 in
theorem w_runnable : about1.curStatus? = some .runnable := by decide +kernel
set_option maxRecDepth 65536 in
theorem w_alone : about1.alone = true := by decide +kernel
set_option maxRecDepth 65536 in
theorem w_named : about1.methodNamed? x = some theMethod := by decide +kernel
set_option maxRecDepth 65536 in
theorem w_hears : about1.hears theMethod below0 = true := by decide +kernel
set_option maxRecDepth 65536 in
theorem w_ripe : about1.ripe theMethod args0 below0 = true := by decide +kernel
theorem w_running : about1.status = .running := rfl
set_option maxRecDepth 65536 in
theorem w_room : about1.hasRoom e0.platform room_1 = true :=
  launch0.hasRoom_least _ room_1 (by decide +kernel) (by decide +kernel) (by decide +kernel) (by decide +kernel) (by decide +kernel) (by decide +kernel)
theorem allAtoms_all (ts : List Jvm.Cond) (a : Array Jvm.Value) (st : Jvm.State) : (allAtoms ts).before a st = ts.all (fun c => c.before a st) := by
  induction ts with
  | nil => rfl
  | cons c t ih =>
    show (Jvm.Cond.and c (allAtoms t)).before a st = _
    rw [Jvm.Cond.before_and, ih, List.all_cons]
def words1 : List Jvm.Cond := Jvm.Cond.code x code maxLocals ret :: tables_1
/-- a 'code' word, met by the world's own term for the bytes: nothing is compared byte by byte -/
theorem code_word {y : MethodName} {bytes : ByteArray} {mx : Nat} {rt : Option FieldType} {a : Array Value} {s : State} {m : MethodId} {meth : Method} {c : Code} (h1 : s.methodNamed? y = some m) (h2 : s.vm.method? m = some meth) (h3 : meth.code = some c) (h4 : c.code = bytes)
    (h5 : (c.maxLocals == mx && c.exceptionTable.isEmpty && decide (c.maxStack ≤ mostOperands) && decide (meth.sig.returnType = rt) && !meth.locks && decide (parseMethodDescriptor y.desc = some meth.sig)) = true) : (Jvm.Cond.code y bytes mx rt).before a s = true := by
  simp only [Bool.and_eq_true, beq_iff_eq, Bool.not_eq_true', decide_eq_true_eq] at h5
  obtain ⟨⟨⟨⟨⟨g1, g2⟩, g3⟩, g4⟩, g5⟩, g6⟩ := h5
  simp [Cond.before, Cond.holds, Cond.value, h1, h2, h3, h4, g1, g2, g3, g4, g5, g6]
def isCode : Jvm.Cond → Bool
  | .code _ _ _ _ => true
  | _ => false
theorem all_split {L : List Jvm.Cond} {P : Jvm.Cond → Bool} (h1 : L.all (fun c => isCode c || P c) = true) (h2 : ∀ c ∈ L.filter isCode, P c = true) : L.all P = true := by
  refine List.all_eq_true.mpr fun c hc => ?_
  have h := List.all_eq_true.mp h1 c hc
  rcases Bool.eq_false_or_eq_true (isCode c) with hi | hi
  · exact h2 c (List.mem_filter.mpr ⟨hc, hi⟩)
  · simpa [hi] using h
set_option maxRecDepth 65536 in
theorem w_c0 : (Jvm.Cond.code x code maxLocals ret).before args0 about1 = true := code_word (m := ⟨1, 2⟩) (meth := k1m2) (c := k1c2) (by decide +kernel) rfl rfl rfl (by decide +kernel)
set_option maxRecDepth 65536 in
theorem w_c1 : (Jvm.Cond.code ({ cls := "com/example/credence/credence/CredentialsBlankPinLaw", name := "make", desc := "(II)Ljava/lang/String;" } : Jvm.MethodName) method_2_code (3 : Nat) (Option.some (Jvm.ClassFile.FieldType.object "java/lang/String"))).before args0 about1 = true := code_word (m := ⟨1, 1⟩) (meth := k1m1) (c := k1c1) (by decide +kernel) rfl rfl rfl (by decide +kernel)
set_option maxRecDepth 65536 in
theorem w_c2 : (Jvm.Cond.code ({ cls := "java/lang/String", name := "<init>", desc := "([C)V" } : Jvm.MethodName) jdk_42_method_3_code (2 : Nat) (Option.none : Option Jvm.ClassFile.FieldType)).before args0 about1 = true := code_word (m := ⟨7, 1⟩) (meth := k7m1) (c := k7c1) (by decide +kernel) rfl rfl rfl (by decide +kernel)
set_option maxRecDepth 65536 in
theorem w_c3 : (Jvm.Cond.code ({ cls := "java/lang/String", name := "<init>", desc := "([CIILjava/lang/Void;)V" } : Jvm.MethodName) jdk_42_method_149_code (6 : Nat) (Option.none : Option Jvm.ClassFile.FieldType)).before args0 about1 = true := code_word (m := ⟨7, 3⟩) (meth := k7m3) (c := k7c3) (by decide +kernel) rfl rfl rfl (by decide +kernel)
set_option maxRecDepth 65536 in
theorem w_c4 : (Jvm.Cond.code ({ cls := "java/lang/Object", name := "<init>", desc := "()V" } : Jvm.MethodName) object_method_1_code (1 : Nat) (Option.none : Option Jvm.ClassFile.FieldType)).before args0 about1 = true := code_word (m := ⟨0, 0⟩) (meth := k0m0) (c := k0c0) (by decide +kernel) rfl rfl rfl (by decide +kernel)
set_option maxRecDepth 65536 in
theorem w_c5 : (Jvm.Cond.code ({ cls := "java/lang/StringUTF16", name := "compress", desc := "([CII)[B" } : Jvm.MethodName) jdk_52_method_16_code (6 : Nat) (Option.some (Jvm.ClassFile.FieldType.array Jvm.ClassFile.FieldType.byte))).before args0 about1 = true := code_word (m := ⟨8, 7⟩) (meth := k8m7) (c := k8c7) (by decide +kernel) rfl rfl rfl (by decide +kernel)
set_option maxRecDepth 65536 in
theorem w_c6 : (Jvm.Cond.code ({ cls := "java/lang/StringUTF16", name := "compress", desc := "([CI[BII)I" } : Jvm.MethodName) jdk_52_method_21_code (7 : Nat) (Option.some Jvm.ClassFile.FieldType.int)).before args0 about1 = true := code_word (m := ⟨8, 8⟩) (meth := k8m8) (c := k8c8) (by decide +kernel) rfl rfl rfl (by decide +kernel)
set_option maxRecDepth 65536 in
theorem w_c7 : (Jvm.Cond.code ({ cls := "java/lang/StringUTF16", name := "coderFromArrayLen", desc := "([BI)B" } : Jvm.MethodName) jdk_52_method_15_code (2 : Nat) (Option.some Jvm.ClassFile.FieldType.byte)).before args0 about1 = true := code_word (m := ⟨8, 6⟩) (meth := k8m6) (c := k8c6) (by decide +kernel) rfl rfl rfl (by decide +kernel)
set_option maxRecDepth 65536 in
theorem w_c8 : (Jvm.Cond.code ({ cls := "com/example/credence/credence/Credentials", name := "<init>", desc := "(Ljava/lang/String;Ljava/lang/String;)V" } : Jvm.MethodName) prog_3_method_1_code (3 : Nat) (Option.none : Option Jvm.ClassFile.FieldType)).before args0 about1 = true := code_word (m := ⟨10, 0⟩) (meth := k10m0) (c := k10c0) (by decide +kernel) rfl rfl rfl (by decide +kernel)
set_option maxRecDepth 65536 in
theorem w_c9 : (Jvm.Cond.code ({ cls := "java/lang/Record", name := "<init>", desc := "()V" } : Jvm.MethodName) jdk_30_method_1_code (1 : Nat) (Option.none : Option Jvm.ClassFile.FieldType)).before args0 about1 = true := code_word (m := ⟨9, 0⟩) (meth := k9m0) (c := k9c0) (by decide +kernel) rfl rfl rfl (by decide +kernel)
set_option maxRecDepth 65536 in
theorem w_c10 : (Jvm.Cond.code ({ cls := "com/example/credence/credence/Credentials", name := "blank", desc := "()Z" } : Jvm.MethodName) prog_3_method_3_code (1 : Nat) (Option.some Jvm.ClassFile.FieldType.boolean)).before args0 about1 = true := code_word (m := ⟨10, 1⟩) (meth := k10m1) (c := k10c1) (by decide +kernel) rfl rfl rfl (by decide +kernel)
set_option maxRecDepth 65536 in
theorem w_c11 : (Jvm.Cond.code ({ cls := "java/lang/String", name := "isEmpty", desc := "()Z" } : Jvm.MethodName) jdk_42_method_55_code (1 : Nat) (Option.some Jvm.ClassFile.FieldType.boolean)).before args0 about1 = true := code_word (m := ⟨7, 2⟩) (meth := k7m2) (c := k7c2) (by decide +kernel) rfl rfl rfl (by decide +kernel)
set_option maxRecDepth 65536 in
theorem w_c12 : (Jvm.Cond.code ({ cls := "java/lang/StringUTF16", name := "toBytes", desc := "([CII)[B" } : Jvm.MethodName) jdk_52_method_14_code (5 : Nat) (Option.some (Jvm.ClassFile.FieldType.array Jvm.ClassFile.FieldType.byte))).before args0 about1 = true := code_word (m := ⟨8, 5⟩) (meth := k8m5) (c := k8c5) (by decide +kernel) rfl rfl rfl (by decide +kernel)
set_option maxRecDepth 65536 in
theorem w_c13 : (Jvm.Cond.code ({ cls := "java/lang/StringUTF16", name := "newBytesFor", desc := "(I)[B" } : Jvm.MethodName) jdk_52_method_2_code (1 : Nat) (Option.some (Jvm.ClassFile.FieldType.array Jvm.ClassFile.FieldType.byte))).before args0 about1 = true := code_word (m := ⟨8, 1⟩) (meth := k8m1) (c := k8c1) (by decide +kernel) rfl rfl rfl (by decide +kernel)
set_option maxRecDepth 65536 in
theorem w_c14 : (Jvm.Cond.code ({ cls := "java/lang/StringUTF16", name := "newBytesLength", desc := "(I)I" } : Jvm.MethodName) jdk_52_method_3_code (1 : Nat) (Option.some Jvm.ClassFile.FieldType.int)).before args0 about1 = true := code_word (m := ⟨8, 2⟩) (meth := k8m2) (c := k8c2) (by decide +kernel) rfl rfl rfl (by decide +kernel)
set_option maxRecDepth 65536 in
theorem w_c15 : (Jvm.Cond.code ({ cls := "java/lang/StringUTF16", name := "putChar", desc := "([BII)V" } : Jvm.MethodName) jdk_52_method_4_code (3 : Nat) (Option.none : Option Jvm.ClassFile.FieldType)).before args0 about1 = true := code_word (m := ⟨8, 3⟩) (meth := k8m3) (c := k8c3) (by decide +kernel) rfl rfl rfl (by decide +kernel)
set_option maxRecDepth 65536 in
theorem w_c16 : (Jvm.Cond.code ({ cls := "java/lang/StringUTF16", name := "getChar", desc := "([BI)C" } : Jvm.MethodName) jdk_52_method_5_code (2 : Nat) (Option.some Jvm.ClassFile.FieldType.char)).before args0 about1 = true := code_word (m := ⟨8, 4⟩) (meth := k8m4) (c := k8c4) (by decide +kernel) rfl rfl rfl (by decide +kernel)
def codes1 : List Jvm.Cond := [Jvm.Cond.code x code maxLocals ret, Jvm.Cond.code ({ cls := "com/example/credence/credence/CredentialsBlankPinLaw", name := "make", desc := "(II)Ljava/lang/String;" } : Jvm.MethodName) method_2_code (3 : Nat) (Option.some (Jvm.ClassFile.FieldType.object "java/lang/String")), Jvm.Cond.code ({ cls := "java/lang/String", name := "<init>", desc := "([C)V" } : Jvm.MethodName) jdk_42_method_3_code (2 : Nat) (Option.none : Option Jvm.ClassFile.FieldType), Jvm.Cond.code ({ cls := "java/lang/String", name := "<init>", desc := "([CIILjava/lang/Void;)V" } : Jvm.MethodName) jdk_42_method_149_code (6 : Nat) (Option.none : Option Jvm.ClassFile.FieldType), Jvm.Cond.code ({ cls := "java/lang/Object", name := "<init>", desc := "()V" } : Jvm.MethodName) object_method_1_code (1 : Nat) (Option.none : Option Jvm.ClassFile.FieldType), Jvm.Cond.code ({ cls := "java/lang/StringUTF16", name := "compress", desc := "([CII)[B" } : Jvm.MethodName) jdk_52_method_16_code (6 : Nat) (Option.some (Jvm.ClassFile.FieldType.array Jvm.ClassFile.FieldType.byte)), Jvm.Cond.code ({ cls := "java/lang/StringUTF16", name := "compress", desc := "([CI[BII)I" } : Jvm.MethodName) jdk_52_method_21_code (7 : Nat) (Option.some Jvm.ClassFile.FieldType.int), Jvm.Cond.code ({ cls := "java/lang/StringUTF16", name := "coderFromArrayLen", desc := "([BI)B" } : Jvm.MethodName) jdk_52_method_15_code (2 : Nat) (Option.some Jvm.ClassFile.FieldType.byte), Jvm.Cond.code ({ cls := "com/example/credence/credence/Credentials", name := "<init>", desc := "(Ljava/lang/String;Ljava/lang/String;)V" } : Jvm.MethodName) prog_3_method_1_code (3 : Nat) (Option.none : Option Jvm.ClassFile.FieldType), Jvm.Cond.code ({ cls := "java/lang/Record", name := "<init>", desc := "()V" } : Jvm.MethodName) jdk_30_method_1_code (1 : Nat) (Option.none : Option Jvm.ClassFile.FieldType), Jvm.Cond.code ({ cls := "com/example/credence/credence/Credentials", name := "blank", desc := "()Z" } : Jvm.MethodName) prog_3_method_3_code (1 : Nat) (Option.some Jvm.ClassFile.FieldType.boolean), Jvm.Cond.code ({ cls := "java/lang/String", name := "isEmpty", desc := "()Z" } : Jvm.MethodName) jdk_42_method_55_code (1 : Nat) (Option.some Jvm.ClassFile.FieldType.boolean), Jvm.Cond.code ({ cls := "java/lang/StringUTF16", name := "toBytes", desc := "([CII)[B" } : Jvm.MethodName) jdk_52_method_14_code (5 : Nat) (Option.some (Jvm.ClassFile.FieldType.array Jvm.ClassFile.FieldType.byte)), Jvm.Cond.code ({ cls := "java/lang/StringUTF16", name := "newBytesFor", desc := "(I)[B" } : Jvm.MethodName) jdk_52_method_2_code (1 : Nat) (Option.some (Jvm.ClassFile.FieldType.array Jvm.ClassFile.FieldType.byte)), Jvm.Cond.code ({ cls := "java/lang/StringUTF16", name := "newBytesLength", desc := "(I)I" } : Jvm.MethodName) jdk_52_method_3_code (1 : Nat) (Option.some Jvm.ClassFile.FieldType.int), Jvm.Cond.code ({ cls := "java/lang/StringUTF16", name := "putChar", desc := "([BII)V" } : Jvm.MethodName) jdk_52_method_4_code (3 : Nat) (Option.none : Option Jvm.ClassFile.FieldType), Jvm.Cond.code ({ cls := "java/lang/StringUTF16", name := "getChar", desc := "([BI)C" } : Jvm.MethodName) jdk_52_method_5_code (2 : Nat) (Option.some Jvm.ClassFile.FieldType.char)]
set_option maxRecDepth 65536 in
theorem codes_eq : words1.filter isCode = codes1 := rfl
theorem w_codes : ∀ c ∈ words1.filter isCode, c.before args0 about1 = true := by
  rw [codes_eq]
  intro c hc
  simp only [codes1, List.mem_cons, List.not_mem_nil, or_false] at hc
  rcases hc with rfl | rfl | rfl | rfl | rfl | rfl | rfl | rfl | rfl | rfl | rfl | rfl | rfl | rfl | rfl | rfl | rfl
  · exact w_c0
  · exact w_c1
  · exact w_c2
  · exact w_c3
  · exact w_c4
  · exact w_c5
  · exact w_c6
  · exact w_c7
  · exact w_c8
  · exact w_c9
  · exact w_c10
  · exact w_c11
  · exact w_c12
  · exact w_c13
  · exact w_c14
  · exact w_c15
  · exact w_c16
set_option maxRecDepth 65536 in
theorem w_t1 : (words1.take 24).all (fun c => isCode c || c.before args0 about1) = true := by decide +kernel
set_option maxRecDepth 65536 in
theorem w_t2 : ((words1.drop 24).take 24).all (fun c => isCode c || c.before args0 about1) = true := by decide +kernel
set_option maxRecDepth 65536 in
theorem w_t3 : (((words1.drop 24).drop 24).take 24).all (fun c => isCode c || c.before args0 about1) = true := by decide +kernel
set_option maxRecDepth 65536 in
theorem w_t4 : (((words1.drop 24).drop 24).drop 24).all (fun c => isCode c || c.before args0 about1) = true := by decide +kernel
theorem w_tables : (allAtoms (Jvm.Cond.code x code maxLocals ret :: tables_1)).before args0 about1 = true := by
  rw [allAtoms_all]
  show words1.all (fun c => c.before args0 about1) = true
  refine all_split ?_ w_codes
  rw [← List.take_append_drop 24 words1, List.all_append, w_t1, ← List.take_append_drop 24 (words1.drop 24), List.all_append, w_t2, ← List.take_append_drop 24 ((words1.drop 24).drop 24), List.all_append, w_t3, w_t4]
  rfl
set_option maxRecDepth 65536 in
theorem w_rest : rest_1_c.before args0 about1 = true := by decide +kernel
set_option maxRecDepth 65536 in
theorem w_case : (Jvm.Cond.and given_1 narrow_1).before args0 about1 = true := by decide +kernel
set_option maxRecDepth 65536 in
theorem w_consts : constsHeld consts_1 about1 := Jvm.Lit.constsHeldB_iff.mp (by decide +kernel)
theorem w_applies : (headSpec (Jvm.Cond.code x code maxLocals ret :: tables_1) room_1).applies x e0.platform about1 = true :=
  (Spec.applies_iff w_frames).mpr ⟨w_running, w_runnable, w_alone, w_named, w_hears, w_ripe, w_room, w_tables⟩
theorem atStart : AtStart classFile x code maxLocals ret World_1 tables_1 room_1 Calls_1 rest_1 Pre_1 launch0 p0 e0 about1 theMethod args0 below0 :=
  ⟨lists_1, trivial, launch0.admits_env _ _ _, launch0.least_env, fairChoices_fair.cas, fairChoices_fair.clock, w_frames, w_args, w_heap, w_applies, ⟨w_consts, trivial⟩, w_rest, w_case⟩
end start1
theorem witness_1 : WitnessClaimed_1 := ⟨start1.p0, start1.e0, start1.about1, start1.theMethod, start1.args0, start1.below0, start1.atStart⟩
end Jvm.Pilot.@@N@@
